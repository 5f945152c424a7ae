import JvmDerived
import JvmDerived.Pilot.@@N@@Statement
import JvmDerived.Pilot.@@N@@Code
set_option linter.unusedVariables false
set_option linter.unusedSimpArgs false
namespace Jvm.Pilot.@@N@@
open Jvm Jvm.ClassFile Sem Op Lib Jvm.Free Jvm.Stand Jvm.LawKit Jvm.RoadKit Bundle Jvm.Pilot.@@N@@.Jvm.D
/-! A small walker over the library's laws (own text): objects made by the law are kept as a list H; the object k lies at the address n0 + k. -/
abbrev GLay : Type := String × List (String × String × String × FieldType)
abbrev GObj : Type := (GLay × List Value) ⊕ (FieldType × List Value)
abbrev GM : Type := MethodName × ByteArray × Nat × Option FieldType
def LayOk (Z : State) (a0 : Array Value) (K : GLay) : Prop :=
  (∃ kk, (Jvm.Cond.instantiable K.1 kk).before a0 Z = true) ∧ (∀ q ∈ K.2, Laid Z a0 K.1 q.1 q.2.1 q.2.2.1 ∧ parseFieldDescriptor q.2.2.1 = some q.2.2.2) ∧ (K.2.map fun q => q.2.1).Nodup
abbrev own_junk : GObj := .inl (("", []), [])
def Ob (Z : State) (a0 : Array Value) (h : Heap) (a : Addr) : GObj → Prop
  | .inl _ => True
  | .inr (ty, vs) => ∃ c : Cell, Arr Z h a c ty ∧ c.slots = vs.toArray ∧ (∀ v ∈ vs, fits ty v = true) ∧ Exa Z h a ("[" ++ ty.toString) ∧ ∀ C, ty = .object C → Ovr Z c.cls C
theorem Ob.ext {Z : State} {a0 : Array Value} {h h' : Heap} {a : Addr} {o : GObj} (E : Ext h h') (F : Ob Z a0 h a o) : Ob Z a0 h' a o := by
  rcases o with ⟨K, vs⟩ | ⟨ty, vs⟩
  · exact trivial
  · obtain ⟨c, h1, h2, h3, h4, h5⟩ := F
    exact ⟨c, h1.ext E, h2, h3, h4.ext E, h5⟩
theorem Ob.other {Z : State} {a0 : Array Value} {h h' : Heap} {a b : Addr} {sl : Nat} {v : Value} {o : GObj} (W : Wr h h' b sl v) (ne : a ≠ b) (F : Ob Z a0 h a o) : Ob Z a0 h' a o := by
  rcases o with ⟨K, vs⟩ | ⟨ty, vs⟩
  · exact trivial
  · obtain ⟨c, h1, h2, h3, h4, h5⟩ := F
    exact ⟨c, h1.other W ne, h2, h3, h4.wr W, h5⟩
def Sat (Z : State) (a0 : Array Value) (n0 : Nat) (h : Heap) (H : List GObj) : Prop :=
  Z.heap.size = n0 ∧ Ext Z.heap h ∧ h.size = n0 + H.length ∧ ∀ (k : Nat) (o : GObj), H[k]? = some o → Ob Z a0 h (n0 + k) o
theorem Sat.push {Z : State} {a0 : Array Value} {n0 : Nat} {h h' : Heap} {H : List GObj} {o : GObj} (S : Sat Z a0 n0 h H) (E : Ext h h') (hs : h'.size = h.size + 1) (F : Ob Z a0 h' h.size o) : Sat Z a0 n0 h' (H ++ [o]) := by
  obtain ⟨s1, s2, s3, s4⟩ := S
  refine ⟨s1, ⟨Nat.le_trans s2.1 E.1, fun a c q => E.2 a c (s2.2 a c q)⟩, by simp [hs, s3]; omega, fun k o' hk => ?_⟩
  rcases Nat.lt_trichotomy k H.length with q | q | q
  · rw [List.getElem?_append_left q] at hk
    exact (s4 k o' hk).ext E
  · subst q
    simp at hk
    subst hk
    rw [← s3]; exact F
  · rw [List.getElem?_eq_none (by simp; omega)] at hk; cases hk
theorem Sat.put {Z : State} {a0 : Array Value} {n0 : Nat} {h h' : Heap} {H : List GObj} {k sl : Nat} {v : Value} {o : GObj} (S : Sat Z a0 n0 h H) (W : Wr h h' (n0 + k) sl v) (F : Ob Z a0 h' (n0 + k) o) : Sat Z a0 n0 h' (H.set k o) := by
  obtain ⟨s1, s2, s3, s4⟩ := S
  refine ⟨s1, ⟨by rw [W.size]; exact s2.1, fun a c q => ?_⟩, by rw [W.size, s3]; simp, fun j o' hj => ?_⟩
  · obtain ⟨c', e1, -, -, -, e5, -⟩ := wr_at W (s2.2 a c q)
    have hlt := (Array.getElem?_eq_some_iff.mp q).1
    rw [← e5 (by intro q; subst q; rw [s1] at hlt; exact absurd hlt (by exact Nat.not_lt.mpr (Nat.le_add_right _ _)))]; exact e1
  · rw [List.getElem?_set] at hj
    split at hj
    · rename_i e
      subst e
      split at hj
      · cases hj; exact F
      · cases hj
    · rename_i ne
      exact (s4 j o' hj).other W (fun q => ne (Nat.add_left_cancel q).symm)
theorem Sat.lt {Z : State} {a0 : Array Value} {n0 : Nat} {h : Heap} {H : List GObj} (S : Sat Z a0 n0 h H) {k : Nat} {o : GObj} (q : H[k]? = some o) : n0 + k < h.size := by
  have := (List.getElem?_eq_some_iff.mp q).1
  have := S.2.2.1
  omega
/-- what a walk's frame stands in -/
def Cx (Z : State) (M : GM) (p : Program) (s : State) (m : MethodId) (meth : Method) (c : Code) : Prop :=
  p.tables.exec = Jvm.exec ∧ Z.Warmed39 s.vm ∧ c.code = M.2.1 ∧ c.maxLocals = M.2.2.1 ∧ meth.sig.returnType = M.2.2.2 ∧ meth.locks = false ∧ s.vm.findClass M.1.cls = some m.cls ∧ meth.name = M.1.name
def End (Z : State) (a0 : Array Value) (n0 : Nat) (R : Room) (Q : Option Value → List GObj → Prop) (p : Program) (e : Env) (s : State) (below : List Frame) (b : Nat) (S0 : State) : Prop :=
  ∃ s₂ o, Steps p.tables e below S0 s₂ ∧ s₂.status = .running ∧ Ended s₂ below o ∧ b ≤ s₂.heap.size ∧ ∃ v L', o = .returned v ∧ (∃ H', Q v H' ∧ Sat Z a0 n0 s₂.heap H' ∧ Fr n0 L') ∧ ReturnedEndW s o s₂ L' R.cells R.slots
theorem End.back {Z : State} {a0 : Array Value} {n0 : Nat} {R : Room} {Q : Option Value → List GObj → Prop} {p : Program} {e : Env} {s : State} {below : List Frame} {b b' : Nat} {S0 S1 : State} (h : End Z a0 n0 R Q p e s below b' S1) (st : ∀ t, Steps p.tables e below S1 t → Steps p.tables e below S0 t) (hb : b ≤ b' := by first | exact Nat.le_refl _ | (simp; done) | (simp; omega)) : End Z a0 n0 R Q p e s below b S0 := by
  obtain ⟨s₂, o, h1, h2, h3, h4, r⟩ := h
  exact ⟨s₂, o, st _ h1, h2, h3, Nat.le_trans hb h4, r⟩
/-- from this point the walk comes to its end, and what it leaves meets Q -/
def Go (Z : State) (a0 : Array Value) (n0 : Nat) (M : GM) (R : Room) (Q : Option Value → List GObj → Prop) (pc : Nat) (L : List Slot) (st : List Value) (H : List GObj) (ce sl : Nat) : Prop :=
  ∀ (p : Program) (l : Launch) (e : Env) (s : State) (m : MethodId) (args : Array Value) (below : List Frame) (meth : Method) (c : Code) (T : State) (locs : List Loc),
    Stand p l e R s m args below meth c T locs ce sl → Cx Z M p s m meth c → Sat Z a0 n0 T.heap H → s.heap.size + ce = n0 + H.length → Fr n0 locs → End Z a0 n0 R Q p e s below (n0 + H.length) (T.setTop (mkF m pc L.toArray st))
/-- the instruction at pc, its length, what lies behind -/
def Ins (M : GM) (pc : Nat) (i : Instr) (n pc' : Nat) : Prop := decode M.2.1 pc = .ok (i, n) ∧ pc + n = pc'
section Rules
variable {Z : State} {a0 : Array Value} {n0 : Nat} {M : GM} {R : Room} {Q : Option Value → List GObj → Prop} {pc pc' : Nat} {L : List Slot} {st : List Value} {H : List GObj} {ce sl : Nat}
theorem go_pure {L' : List Slot} {st' : List Value} (hs : ∀ (p : Program) (e : Env) (m : MethodId) (below : List Frame) (c : Code) (T t : State), At T m c below → p.tables.exec = Jvm.exec → c.code = M.2.1 → Steps p.tables e below (T.setTop (mkF m pc' L'.toArray st')) t → Steps p.tables e below (T.setTop (mkF m pc L.toArray st)) t)
    (h : Go Z a0 n0 M R Q pc' L' st' H ce sl) : Go Z a0 n0 M R Q pc L st H ce sl := fun p l e s m args below meth c T locs X C S E F =>
  (h p l e s m args below meth c T locs X C S E F).back fun t k => hs p e m below c T t X.here C.1 C.2.2.1 k
end Rules
section Rules
variable {Z : State} {a0 : Array Value} {n0 : Nat} {M : GM} {R : Room} {Q : Option Value → List GObj → Prop} {pc pc' : Nat} {L : List Slot} {st : List Value} {H : List GObj} {ce sl : Nat}
theorem go_aloadN {k : Fin 4} {v : Addr} (hd : Ins M pc (.aload_n k) 1 pc') (hl : L[k.val]? = some (.val (.ref v))) (h : Go Z a0 n0 M R Q pc' L (.ref v :: st) H ce sl) : Go Z a0 n0 M R Q pc L st H ce sl := by
  obtain ⟨hd, rfl⟩ := hd
  exact go_pure (fun p e m below c T t hA hx hy k => XS.aloadN hA hx rfl (hb hy hd) (by simpa using hl) rfl k) h
theorem go_aload {k : Nat} {v : Addr} (hd : Ins M pc (.aload k) 2 pc') (hl : L[k]? = some (.val (.ref v))) (h : Go Z a0 n0 M R Q pc' L (.ref v :: st) H ce sl) : Go Z a0 n0 M R Q pc L st H ce sl := by
  obtain ⟨hd, rfl⟩ := hd
  exact go_pure (fun p e m below c T t hA hx hy k => XS.aload hA hx rfl (hb hy hd) (by simpa using hl) rfl k) h
theorem go_aloadNull {k : Fin 4} (hd : Ins M pc (.aload_n k) 1 pc') (hl : L[k.val]? = some (.val .null)) (h : Go Z a0 n0 M R Q pc' L (.null :: st) H ce sl) : Go Z a0 n0 M R Q pc L st H ce sl := by
  obtain ⟨hd, rfl⟩ := hd
  exact go_pure (fun p e m below c T t hA hx hy k => XS.aloadN hA hx rfl (hb hy hd) (by simpa using hl) rfl k) h
theorem go_iloadN {k : Fin 4} {v : Int32} (hd : Ins M pc (.iload_n k) 1 pc') (hl : L[k.val]? = some (.val (.int v))) (h : Go Z a0 n0 M R Q pc' L (.int v :: st) H ce sl) : Go Z a0 n0 M R Q pc L st H ce sl := by
  obtain ⟨hd, rfl⟩ := hd
  exact go_pure (fun p e m below c T t hA hx hy k => XS.iloadN hA hx rfl (hb hy hd) (by simpa using hl) k) h
theorem go_iload {k : Nat} {v : Int32} (hd : Ins M pc (.iload k) 2 pc') (hl : L[k]? = some (.val (.int v))) (h : Go Z a0 n0 M R Q pc' L (.int v :: st) H ce sl) : Go Z a0 n0 M R Q pc L st H ce sl := by
  obtain ⟨hd, rfl⟩ := hd
  exact go_pure (fun p e m below c T t hA hx hy k => XS.iload hA hx rfl (hb hy hd) (by simpa using hl) k) h
theorem go_lloadN {k : Fin 4} {v : Int64} (hd : Ins M pc (.lload_n k) 1 pc') (hl : L[k.val]? = some (.val (.long v))) (h : Go Z a0 n0 M R Q pc' L (.long v :: st) H ce sl) : Go Z a0 n0 M R Q pc L st H ce sl := by
  obtain ⟨hd, rfl⟩ := hd
  exact go_pure (fun p e m below c T t hA hx hy k => XT.lloadN hA hx rfl (hb hy hd) (by simpa using hl) k) h
theorem go_lload {k : Nat} {v : Int64} (hd : Ins M pc (.lload k) 2 pc') (hl : L[k]? = some (.val (.long v))) (h : Go Z a0 n0 M R Q pc' L (.long v :: st) H ce sl) : Go Z a0 n0 M R Q pc L st H ce sl := by
  obtain ⟨hd, rfl⟩ := hd
  exact go_pure (fun p e m below c T t hA hx hy k => XT.lload hA hx rfl (hb hy hd) (by simpa using hl) k) h
theorem go_iconst {i : Int} {v : Int32} (hd : Ins M pc (.iconst i) 1 pc') (hv : Int32.ofInt i = v) (h : Go Z a0 n0 M R Q pc' L (.int v :: st) H ce sl) : Go Z a0 n0 M R Q pc L st H ce sl := by
  obtain ⟨hd, rfl⟩ := hd
  exact go_pure (fun p e m below c T t hA hx hy k => XS.iconst hA hx rfl (hb hy hd) (by rw [hv]; exact k)) h
theorem go_bipush {i : Int} {v : Int32} (hd : Ins M pc (.bipush i) 2 pc') (hv : (Int8.ofInt i).toInt32 = v) (h : Go Z a0 n0 M R Q pc' L (.int v :: st) H ce sl) : Go Z a0 n0 M R Q pc L st H ce sl := by
  obtain ⟨hd, rfl⟩ := hd
  exact go_pure (fun p e m below c T t hA hx hy k => XS.bipush hA hx rfl (hb hy hd) (by rw [hv]; exact k)) h
theorem go_sipush {i : Int} {v : Int32} (hd : Ins M pc (.sipush i) 3 pc') (hv : (Int16.ofInt i).toInt32 = v) (h : Go Z a0 n0 M R Q pc' L (.int v :: st) H ce sl) : Go Z a0 n0 M R Q pc L st H ce sl := by
  obtain ⟨hd, rfl⟩ := hd
  exact go_pure (fun p e m below c T t hA hx hy k => XS.sipush hA hx rfl (hb hy hd) (by rw [hv]; exact k)) h
theorem go_lconst {i : Fin 2} {v : Int64} (hd : Ins M pc (.lconst i) 1 pc') (hv : Int64.ofNat i = v) (h : Go Z a0 n0 M R Q pc' L (.long v :: st) H ce sl) : Go Z a0 n0 M R Q pc L st H ce sl := by
  obtain ⟨hd, rfl⟩ := hd
  exact go_pure (fun p e m below c T t hA hx hy k => XT.lconst hA hx rfl (hb hy hd) (by rw [hv]; exact k)) h
theorem go_aconstNull  (hd : Ins M pc (.aconst_null) 1 pc') (h : Go Z a0 n0 M R Q pc' L (.null :: st) H ce sl) : Go Z a0 n0 M R Q pc L st H ce sl := by
  obtain ⟨hd, rfl⟩ := hd
  exact go_pure (fun p e m below c T t hA hx hy k => XS.aconstNull hA hx rfl (hb hy hd) k) h
theorem go_iadd {x y : Int32} (hd : Ins M pc (.iadd) 1 pc') (h : Go Z a0 n0 M R Q pc' L (.int (x + y) :: st) H ce sl) : Go Z a0 n0 M R Q pc L (.int y :: .int x :: st) H ce sl := by
  obtain ⟨hd, rfl⟩ := hd
  exact go_pure (fun p e m below c T t hA hx hy k => XS.iadd hA hx rfl (hb hy hd) rfl k) h
theorem go_isub {x y : Int32} (hd : Ins M pc (.isub) 1 pc') (h : Go Z a0 n0 M R Q pc' L (.int (x - y) :: st) H ce sl) : Go Z a0 n0 M R Q pc L (.int y :: .int x :: st) H ce sl := by
  obtain ⟨hd, rfl⟩ := hd
  exact go_pure (fun p e m below c T t hA hx hy k => XS.isub hA hx rfl (hb hy hd) rfl k) h
theorem go_imul {x y : Int32} (hd : Ins M pc (.imul) 1 pc') (h : Go Z a0 n0 M R Q pc' L (.int (x * y) :: st) H ce sl) : Go Z a0 n0 M R Q pc L (.int y :: .int x :: st) H ce sl := by
  obtain ⟨hd, rfl⟩ := hd
  exact go_pure (fun p e m below c T t hA hx hy k => XS.imul hA hx rfl (hb hy hd) rfl k) h
theorem go_iand {x y : Int32} (hd : Ins M pc (.iand) 1 pc') (h : Go Z a0 n0 M R Q pc' L (.int (x &&& y) :: st) H ce sl) : Go Z a0 n0 M R Q pc L (.int y :: .int x :: st) H ce sl := by
  obtain ⟨hd, rfl⟩ := hd
  exact go_pure (fun p e m below c T t hA hx hy k => XS.iand hA hx rfl (hb hy hd) rfl k) h
theorem go_ior {x y : Int32} (hd : Ins M pc (.ior) 1 pc') (h : Go Z a0 n0 M R Q pc' L (.int (x ||| y) :: st) H ce sl) : Go Z a0 n0 M R Q pc L (.int y :: .int x :: st) H ce sl := by
  obtain ⟨hd, rfl⟩ := hd
  exact go_pure (fun p e m below c T t hA hx hy k => XT.ior hA hx rfl (hb hy hd) rfl k) h
theorem go_ixor {x y : Int32} (hd : Ins M pc (.ixor) 1 pc') (h : Go Z a0 n0 M R Q pc' L (.int (x ^^^ y) :: st) H ce sl) : Go Z a0 n0 M R Q pc L (.int y :: .int x :: st) H ce sl := by
  obtain ⟨hd, rfl⟩ := hd
  exact go_pure (fun p e m below c T t hA hx hy k => XT.ixor hA hx rfl (hb hy hd) rfl k) h
theorem go_ishl {x y : Int32} (hd : Ins M pc (.ishl) 1 pc') (h : Go Z a0 n0 M R Q pc' L (.int (x <<< (y &&& 31)) :: st) H ce sl) : Go Z a0 n0 M R Q pc L (.int y :: .int x :: st) H ce sl := by
  obtain ⟨hd, rfl⟩ := hd
  exact go_pure (fun p e m below c T t hA hx hy k => XT.ishl hA hx rfl (hb hy hd) rfl k) h
theorem go_ishr {x y : Int32} (hd : Ins M pc (.ishr) 1 pc') (h : Go Z a0 n0 M R Q pc' L (.int (x >>> (y &&& 31)) :: st) H ce sl) : Go Z a0 n0 M R Q pc L (.int y :: .int x :: st) H ce sl := by
  obtain ⟨hd, rfl⟩ := hd
  exact go_pure (fun p e m below c T t hA hx hy k => XT.ishr hA hx rfl (hb hy hd) rfl k) h
theorem go_iushr {x y : Int32} (hd : Ins M pc (.iushr) 1 pc') (h : Go Z a0 n0 M R Q pc' L (.int (XT.ushr x y) :: st) H ce sl) : Go Z a0 n0 M R Q pc L (.int y :: .int x :: st) H ce sl := by
  obtain ⟨hd, rfl⟩ := hd
  exact go_pure (fun p e m below c T t hA hx hy k => XT.iushr hA hx rfl (hb hy hd) rfl k) h
theorem go_idiv {x y : Int32} (hd : Ins M pc (.idiv) 1 pc') (hn : y ≠ 0) (h : Go Z a0 n0 M R Q pc' L (.int (x / y) :: st) H ce sl) : Go Z a0 n0 M R Q pc L (.int y :: .int x :: st) H ce sl := by
  obtain ⟨hd, rfl⟩ := hd
  exact go_pure (fun p e m below c T t hA hx hy k => XS.idiv hA hx rfl (hb hy hd) rfl hn k) h
theorem go_irem {x y : Int32} (hd : Ins M pc (.irem) 1 pc') (hn : y ≠ 0) (h : Go Z a0 n0 M R Q pc' L (.int (x % y) :: st) H ce sl) : Go Z a0 n0 M R Q pc L (.int y :: .int x :: st) H ce sl := by
  obtain ⟨hd, rfl⟩ := hd
  exact go_pure (fun p e m below c T t hA hx hy k => XS.irem hA hx rfl (hb hy hd) rfl hn (by rw [irem_eq_mod]; exact k)) h
theorem go_ineg {x : Int32} (hd : Ins M pc (.ineg) 1 pc') (h : Go Z a0 n0 M R Q pc' L (.int (-x) :: st) H ce sl) : Go Z a0 n0 M R Q pc L (.int x :: st) H ce sl := by
  obtain ⟨hd, rfl⟩ := hd
  exact go_pure (fun p e m below c T t hA hx hy k => XS.ineg hA hx rfl (hb hy hd) rfl k) h
theorem go_ladd {x y : Int64} (hd : Ins M pc (.ladd) 1 pc') (h : Go Z a0 n0 M R Q pc' L (.long (x + y) :: st) H ce sl) : Go Z a0 n0 M R Q pc L (.long y :: .long x :: st) H ce sl := by
  obtain ⟨hd, rfl⟩ := hd
  exact go_pure (fun p e m below c T t hA hx hy k => XT.ladd hA hx rfl (hb hy hd) rfl k) h
theorem go_lsub {x y : Int64} (hd : Ins M pc (.lsub) 1 pc') (h : Go Z a0 n0 M R Q pc' L (.long (x - y) :: st) H ce sl) : Go Z a0 n0 M R Q pc L (.long y :: .long x :: st) H ce sl := by
  obtain ⟨hd, rfl⟩ := hd
  exact go_pure (fun p e m below c T t hA hx hy k => XT.lsub hA hx rfl (hb hy hd) rfl k) h
theorem go_lmul {x y : Int64} (hd : Ins M pc (.lmul) 1 pc') (h : Go Z a0 n0 M R Q pc' L (.long (x * y) :: st) H ce sl) : Go Z a0 n0 M R Q pc L (.long y :: .long x :: st) H ce sl := by
  obtain ⟨hd, rfl⟩ := hd
  exact go_pure (fun p e m below c T t hA hx hy k => XT.lmul hA hx rfl (hb hy hd) rfl k) h
theorem go_land {x y : Int64} (hd : Ins M pc (.land) 1 pc') (h : Go Z a0 n0 M R Q pc' L (.long (x &&& y) :: st) H ce sl) : Go Z a0 n0 M R Q pc L (.long y :: .long x :: st) H ce sl := by
  obtain ⟨hd, rfl⟩ := hd
  exact go_pure (fun p e m below c T t hA hx hy k => XT.land hA hx rfl (hb hy hd) rfl k) h
theorem go_lor {x y : Int64} (hd : Ins M pc (.lor) 1 pc') (h : Go Z a0 n0 M R Q pc' L (.long (x ||| y) :: st) H ce sl) : Go Z a0 n0 M R Q pc L (.long y :: .long x :: st) H ce sl := by
  obtain ⟨hd, rfl⟩ := hd
  exact go_pure (fun p e m below c T t hA hx hy k => XT.lor hA hx rfl (hb hy hd) rfl k) h
theorem go_lxor {x y : Int64} (hd : Ins M pc (.lxor) 1 pc') (h : Go Z a0 n0 M R Q pc' L (.long (x ^^^ y) :: st) H ce sl) : Go Z a0 n0 M R Q pc L (.long y :: .long x :: st) H ce sl := by
  obtain ⟨hd, rfl⟩ := hd
  exact go_pure (fun p e m below c T t hA hx hy k => XT.lxor hA hx rfl (hb hy hd) rfl k) h
theorem go_lshl {x : Int64} {y : Int32} (hd : Ins M pc (.lshl) 1 pc') (h : Go Z a0 n0 M R Q pc' L (.long (x <<< (y.toInt64 &&& 63)) :: st) H ce sl) : Go Z a0 n0 M R Q pc L (.int y :: .long x :: st) H ce sl := by
  obtain ⟨hd, rfl⟩ := hd
  exact go_pure (fun p e m below c T t hA hx hy k => XT.lshl hA hx rfl (hb hy hd) rfl k) h
theorem go_lshr {x : Int64} {y : Int32} (hd : Ins M pc (.lshr) 1 pc') (h : Go Z a0 n0 M R Q pc' L (.long (x >>> (y.toInt64 &&& 63)) :: st) H ce sl) : Go Z a0 n0 M R Q pc L (.int y :: .long x :: st) H ce sl := by
  obtain ⟨hd, rfl⟩ := hd
  exact go_pure (fun p e m below c T t hA hx hy k => XT.lshr hA hx rfl (hb hy hd) rfl k) h
theorem go_lushr {x : Int64} {y : Int32} (hd : Ins M pc (.lushr) 1 pc') (h : Go Z a0 n0 M R Q pc' L (.long (XT.ushrL x y) :: st) H ce sl) : Go Z a0 n0 M R Q pc L (.int y :: .long x :: st) H ce sl := by
  obtain ⟨hd, rfl⟩ := hd
  exact go_pure (fun p e m below c T t hA hx hy k => XT.lushr hA hx rfl (hb hy hd) rfl k) h
theorem go_lcmp {x y : Int64} (hd : Ins M pc (.lcmp) 1 pc') (h : Go Z a0 n0 M R Q pc' L (.int (XT.cmpL x y) :: st) H ce sl) : Go Z a0 n0 M R Q pc L (.long y :: .long x :: st) H ce sl := by
  obtain ⟨hd, rfl⟩ := hd
  exact go_pure (fun p e m below c T t hA hx hy k => XT.lcmp hA hx rfl (hb hy hd) rfl k) h
theorem go_lneg {x : Int64} (hd : Ins M pc (.lneg) 1 pc') (h : Go Z a0 n0 M R Q pc' L (.long (-x) :: st) H ce sl) : Go Z a0 n0 M R Q pc L (.long x :: st) H ce sl := by
  obtain ⟨hd, rfl⟩ := hd
  exact go_pure (fun p e m below c T t hA hx hy k => XT.lneg hA hx rfl (hb hy hd) rfl k) h
theorem go_i2l {x : Int32} (hd : Ins M pc (.i2l) 1 pc') (h : Go Z a0 n0 M R Q pc' L (.long x.toInt64 :: st) H ce sl) : Go Z a0 n0 M R Q pc L (.int x :: st) H ce sl := by
  obtain ⟨hd, rfl⟩ := hd
  exact go_pure (fun p e m below c T t hA hx hy k => XT.i2l hA hx rfl (hb hy hd) rfl k) h
theorem go_l2i {x : Int64} (hd : Ins M pc (.l2i) 1 pc') (h : Go Z a0 n0 M R Q pc' L (.int x.toInt32 :: st) H ce sl) : Go Z a0 n0 M R Q pc L (.long x :: st) H ce sl := by
  obtain ⟨hd, rfl⟩ := hd
  exact go_pure (fun p e m below c T t hA hx hy k => XT.l2i hA hx rfl (hb hy hd) rfl k) h
theorem go_i2b {x : Int32} (hd : Ins M pc (.i2b) 1 pc') (h : Go Z a0 n0 M R Q pc' L (.int x.toInt8.toInt32 :: st) H ce sl) : Go Z a0 n0 M R Q pc L (.int x :: st) H ce sl := by
  obtain ⟨hd, rfl⟩ := hd
  exact go_pure (fun p e m below c T t hA hx hy k => XT.i2b hA hx rfl (hb hy hd) rfl k) h
theorem go_i2c {x : Int32} (hd : Ins M pc (.i2c) 1 pc') (h : Go Z a0 n0 M R Q pc' L (.int x.toUInt32.toUInt16.toUInt32.toInt32 :: st) H ce sl) : Go Z a0 n0 M R Q pc L (.int x :: st) H ce sl := by
  obtain ⟨hd, rfl⟩ := hd
  exact go_pure (fun p e m below c T t hA hx hy k => XT.i2c hA hx rfl (hb hy hd) rfl k) h
theorem go_dup {x : Value} (hd : Ins M pc (.dup) 1 pc') (hc : x.category = 1) (h : Go Z a0 n0 M R Q pc' L (x :: x :: st) H ce sl) : Go Z a0 n0 M R Q pc L (x :: st) H ce sl := by
  obtain ⟨hd, rfl⟩ := hd
  exact go_pure (fun p e m below c T t hA hx hy k => XS.dup hA hx rfl (hb hy hd) rfl hc k) h
theorem go_pop {x : Value} (hd : Ins M pc (.pop) 1 pc') (hc : x.category = 1) (h : Go Z a0 n0 M R Q pc' L st H ce sl) : Go Z a0 n0 M R Q pc L (x :: st) H ce sl := by
  obtain ⟨hd, rfl⟩ := hd
  exact go_pure (fun p e m below c T t hA hx hy k => XT.pop hA hx rfl (hb hy hd) rfl hc k) h
theorem go_dupX1 {x y : Value} (hd : Ins M pc (.dup_x1) 1 pc') (hc : x.category = 1) (hc' : y.category = 1) (h : Go Z a0 n0 M R Q pc' L (x :: y :: x :: st) H ce sl) : Go Z a0 n0 M R Q pc L (x :: y :: st) H ce sl := by
  obtain ⟨hd, rfl⟩ := hd
  exact go_pure (fun p e m below c T t hA hx hy k => XT.dupX1 hA hx rfl (hb hy hd) rfl hc hc' k) h
theorem go_dup2 {x y : Value} (hd : Ins M pc (.dup2) 1 pc') (hc : x.category = 1) (hc' : y.category = 1) (h : Go Z a0 n0 M R Q pc' L (x :: y :: x :: y :: st) H ce sl) : Go Z a0 n0 M R Q pc L (x :: y :: st) H ce sl := by
  obtain ⟨hd, rfl⟩ := hd
  exact go_pure (fun p e m below c T t hA hx hy k => XT.dup2 hA hx rfl (hb hy hd) rfl hc hc' k) h
theorem go_goto {o : Int} (t : Nat) (hd : Ins M pc (.goto o) 3 pc') (ht : (pc : Int) + o = (t : Int)) (h : Go Z a0 n0 M R Q t L st H ce sl) : Go Z a0 n0 M R Q pc L st H ce sl := by
  obtain ⟨hd, rfl⟩ := hd
  exact go_pure (fun p e m below c T u hA hx hy k => XS.goto hA hx rfl (pc0 := pc) (pc' := t) rfl (hb hy hd) (by omega) (by omega) k) h
theorem go_if {cd : ClassFile.Cond} {o : Int} {x : Int32} (t : Nat) (hd : Ins M pc (.ifCond cd o) 3 pc') (ht : (pc : Int) + o = (t : Int)) (h1 : ifCond.holds cd x = true → Go Z a0 n0 M R Q t L st H ce sl) (h2 : ifCond.holds cd x = false → Go Z a0 n0 M R Q pc' L st H ce sl) : Go Z a0 n0 M R Q pc L (.int x :: st) H ce sl := by
  obtain ⟨hd, rfl⟩ := hd
  cases hc : ifCond.holds cd x
  · exact go_pure (fun p e m below c T u hA hx hy k => XS.ifNo hA hx rfl (hb hy hd) rfl hc k) (h2 hc)
  · exact go_pure (fun p e m below c T u hA hx hy k => XS.ifYes hA hx rfl (pc0 := pc) (pc' := t) rfl (hb hy hd) rfl hc (by omega) (by omega) k) (h1 hc)
theorem go_icmp {cd : ClassFile.Cond} {o : Int} {x y : Int32} (t : Nat) (hd : Ins M pc (.if_icmp cd o) 3 pc') (ht : (pc : Int) + o = (t : Int)) (h1 : if_icmp.holds cd x y = true → Go Z a0 n0 M R Q t L st H ce sl) (h2 : if_icmp.holds cd x y = false → Go Z a0 n0 M R Q pc' L st H ce sl) : Go Z a0 n0 M R Q pc L (.int y :: .int x :: st) H ce sl := by
  obtain ⟨hd, rfl⟩ := hd
  cases hc : if_icmp.holds cd x y
  · exact go_pure (fun p e m below c T u hA hx hy k => XS.icmpNo hA hx rfl (hb hy hd) rfl hc k) (h2 hc)
  · exact go_pure (fun p e m below c T u hA hx hy k => XS.icmpYes hA hx rfl (pc0 := pc) (pc' := t) rfl (hb hy hd) rfl hc (by omega) (by omega) k) (h1 hc)
theorem go_icmpT {cd : ClassFile.Cond} {o : Int} {x y : Int32} (t : Nat) (hd : Ins M pc (.if_icmp cd o) 3 pc') (ht : (pc : Int) + o = (t : Int)) (hc : if_icmp.holds cd x y = true) (h : Go Z a0 n0 M R Q t L st H ce sl) : Go Z a0 n0 M R Q pc L (.int y :: .int x :: st) H ce sl := go_icmp t hd ht (fun _ => h) (fun q => by rw [hc] at q; cases q)
theorem go_icmpF {cd : ClassFile.Cond} {o : Int} {x y : Int32} (hd : Ins M pc (.if_icmp cd o) 3 pc') (hc : if_icmp.holds cd x y = false) (h : Go Z a0 n0 M R Q pc' L st H ce sl) : Go Z a0 n0 M R Q pc L (.int y :: .int x :: st) H ce sl := by
  obtain ⟨hd, rfl⟩ := hd
  exact go_pure (fun p e m below c T u hA hx hy k => XS.icmpNo hA hx rfl (hb hy hd) rfl hc k) h
theorem go_ifT {cd : ClassFile.Cond} {o : Int} {x : Int32} (t : Nat) (hd : Ins M pc (.ifCond cd o) 3 pc') (ht : (pc : Int) + o = (t : Int)) (hc : ifCond.holds cd x = true) (h : Go Z a0 n0 M R Q t L st H ce sl) : Go Z a0 n0 M R Q pc L (.int x :: st) H ce sl := go_if t hd ht (fun _ => h) (fun q => by rw [hc] at q; cases q)
theorem go_ifF {cd : ClassFile.Cond} {o : Int} {x : Int32} (hd : Ins M pc (.ifCond cd o) 3 pc') (hc : ifCond.holds cd x = false) (h : Go Z a0 n0 M R Q pc' L st H ce sl) : Go Z a0 n0 M R Q pc L (.int x :: st) H ce sl := by
  obtain ⟨hd, rfl⟩ := hd
  exact go_pure (fun p e m below c T u hA hx hy k => XS.ifNo hA hx rfl (hb hy hd) rfl hc k) h
theorem hold_lt (x y : Int32) : (if_icmp.holds .lt x y = true ↔ x < y) ∧ (if_icmp.holds .lt x y = false ↔ ¬ x < y) := by simp [if_icmp.holds, Int32.not_lt, Int32.not_le]
theorem go_icmp_lt {o : Int} {x y : Int32} (t : Nat) (hd : Ins M pc (.if_icmp .lt o) 3 pc') (ht : (pc : Int) + o = (t : Int)) (h1 : x < y → Go Z a0 n0 M R Q t L st H ce sl) (h2 : ¬ x < y → Go Z a0 n0 M R Q pc' L st H ce sl) : Go Z a0 n0 M R Q pc L (.int y :: .int x :: st) H ce sl :=
  go_icmp t hd ht (fun q => h1 ((hold_lt x y).1.mp q)) (fun q => h2 ((hold_lt x y).2.mp q))
theorem go_if_lt {o : Int} {x : Int32} (t : Nat) (hd : Ins M pc (.ifCond .lt o) 3 pc') (ht : (pc : Int) + o = (t : Int)) (h1 : x < 0 → Go Z a0 n0 M R Q t L st H ce sl) (h2 : ¬ x < 0 → Go Z a0 n0 M R Q pc' L st H ce sl) : Go Z a0 n0 M R Q pc L (.int x :: st) H ce sl :=
  go_if t hd ht (fun q => h1 ((hold_lt x 0).1.mp ((if0 _ _).symm.trans q))) (fun q => h2 ((hold_lt x 0).2.mp ((if0 _ _).symm.trans q)))
theorem hold_ge (x y : Int32) : (if_icmp.holds .ge x y = true ↔ ¬ x < y) ∧ (if_icmp.holds .ge x y = false ↔ x < y) := by simp [if_icmp.holds, Int32.not_lt, Int32.not_le]
theorem go_icmp_ge {o : Int} {x y : Int32} (t : Nat) (hd : Ins M pc (.if_icmp .ge o) 3 pc') (ht : (pc : Int) + o = (t : Int)) (h1 : ¬ x < y → Go Z a0 n0 M R Q t L st H ce sl) (h2 : x < y → Go Z a0 n0 M R Q pc' L st H ce sl) : Go Z a0 n0 M R Q pc L (.int y :: .int x :: st) H ce sl :=
  go_icmp t hd ht (fun q => h1 ((hold_ge x y).1.mp q)) (fun q => h2 ((hold_ge x y).2.mp q))
theorem go_if_ge {o : Int} {x : Int32} (t : Nat) (hd : Ins M pc (.ifCond .ge o) 3 pc') (ht : (pc : Int) + o = (t : Int)) (h1 : ¬ x < 0 → Go Z a0 n0 M R Q t L st H ce sl) (h2 : x < 0 → Go Z a0 n0 M R Q pc' L st H ce sl) : Go Z a0 n0 M R Q pc L (.int x :: st) H ce sl :=
  go_if t hd ht (fun q => h1 ((hold_ge x 0).1.mp ((if0 _ _).symm.trans q))) (fun q => h2 ((hold_ge x 0).2.mp ((if0 _ _).symm.trans q)))
theorem hold_gt (x y : Int32) : (if_icmp.holds .gt x y = true ↔ y < x) ∧ (if_icmp.holds .gt x y = false ↔ ¬ y < x) := by simp [if_icmp.holds, Int32.not_lt, Int32.not_le]
theorem go_icmp_gt {o : Int} {x y : Int32} (t : Nat) (hd : Ins M pc (.if_icmp .gt o) 3 pc') (ht : (pc : Int) + o = (t : Int)) (h1 : y < x → Go Z a0 n0 M R Q t L st H ce sl) (h2 : ¬ y < x → Go Z a0 n0 M R Q pc' L st H ce sl) : Go Z a0 n0 M R Q pc L (.int y :: .int x :: st) H ce sl :=
  go_icmp t hd ht (fun q => h1 ((hold_gt x y).1.mp q)) (fun q => h2 ((hold_gt x y).2.mp q))
theorem go_if_gt {o : Int} {x : Int32} (t : Nat) (hd : Ins M pc (.ifCond .gt o) 3 pc') (ht : (pc : Int) + o = (t : Int)) (h1 : 0 < x → Go Z a0 n0 M R Q t L st H ce sl) (h2 : ¬ 0 < x → Go Z a0 n0 M R Q pc' L st H ce sl) : Go Z a0 n0 M R Q pc L (.int x :: st) H ce sl :=
  go_if t hd ht (fun q => h1 ((hold_gt x 0).1.mp ((if0 _ _).symm.trans q))) (fun q => h2 ((hold_gt x 0).2.mp ((if0 _ _).symm.trans q)))
theorem hold_le (x y : Int32) : (if_icmp.holds .le x y = true ↔ ¬ y < x) ∧ (if_icmp.holds .le x y = false ↔ y < x) := by simp [if_icmp.holds, Int32.not_lt, Int32.not_le]
theorem go_icmp_le {o : Int} {x y : Int32} (t : Nat) (hd : Ins M pc (.if_icmp .le o) 3 pc') (ht : (pc : Int) + o = (t : Int)) (h1 : ¬ y < x → Go Z a0 n0 M R Q t L st H ce sl) (h2 : y < x → Go Z a0 n0 M R Q pc' L st H ce sl) : Go Z a0 n0 M R Q pc L (.int y :: .int x :: st) H ce sl :=
  go_icmp t hd ht (fun q => h1 ((hold_le x y).1.mp q)) (fun q => h2 ((hold_le x y).2.mp q))
theorem go_if_le {o : Int} {x : Int32} (t : Nat) (hd : Ins M pc (.ifCond .le o) 3 pc') (ht : (pc : Int) + o = (t : Int)) (h1 : ¬ 0 < x → Go Z a0 n0 M R Q t L st H ce sl) (h2 : 0 < x → Go Z a0 n0 M R Q pc' L st H ce sl) : Go Z a0 n0 M R Q pc L (.int x :: st) H ce sl :=
  go_if t hd ht (fun q => h1 ((hold_le x 0).1.mp ((if0 _ _).symm.trans q))) (fun q => h2 ((hold_le x 0).2.mp ((if0 _ _).symm.trans q)))
theorem hold_eq (x y : Int32) : (if_icmp.holds .eq x y = true ↔ x = y) ∧ (if_icmp.holds .eq x y = false ↔ ¬ x = y) := by simp [if_icmp.holds, Int32.not_lt, Int32.not_le]
theorem go_icmp_eq {o : Int} {x y : Int32} (t : Nat) (hd : Ins M pc (.if_icmp .eq o) 3 pc') (ht : (pc : Int) + o = (t : Int)) (h1 : x = y → Go Z a0 n0 M R Q t L st H ce sl) (h2 : ¬ x = y → Go Z a0 n0 M R Q pc' L st H ce sl) : Go Z a0 n0 M R Q pc L (.int y :: .int x :: st) H ce sl :=
  go_icmp t hd ht (fun q => h1 ((hold_eq x y).1.mp q)) (fun q => h2 ((hold_eq x y).2.mp q))
theorem go_if_eq {o : Int} {x : Int32} (t : Nat) (hd : Ins M pc (.ifCond .eq o) 3 pc') (ht : (pc : Int) + o = (t : Int)) (h1 : x = 0 → Go Z a0 n0 M R Q t L st H ce sl) (h2 : ¬ x = 0 → Go Z a0 n0 M R Q pc' L st H ce sl) : Go Z a0 n0 M R Q pc L (.int x :: st) H ce sl :=
  go_if t hd ht (fun q => h1 ((hold_eq x 0).1.mp ((if0 _ _).symm.trans q))) (fun q => h2 ((hold_eq x 0).2.mp ((if0 _ _).symm.trans q)))
theorem hold_ne (x y : Int32) : (if_icmp.holds .ne x y = true ↔ ¬ x = y) ∧ (if_icmp.holds .ne x y = false ↔ x = y) := by simp [if_icmp.holds, Int32.not_lt, Int32.not_le]
theorem go_icmp_ne {o : Int} {x y : Int32} (t : Nat) (hd : Ins M pc (.if_icmp .ne o) 3 pc') (ht : (pc : Int) + o = (t : Int)) (h1 : ¬ x = y → Go Z a0 n0 M R Q t L st H ce sl) (h2 : x = y → Go Z a0 n0 M R Q pc' L st H ce sl) : Go Z a0 n0 M R Q pc L (.int y :: .int x :: st) H ce sl :=
  go_icmp t hd ht (fun q => h1 ((hold_ne x y).1.mp q)) (fun q => h2 ((hold_ne x y).2.mp q))
theorem go_if_ne {o : Int} {x : Int32} (t : Nat) (hd : Ins M pc (.ifCond .ne o) 3 pc') (ht : (pc : Int) + o = (t : Int)) (h1 : ¬ x = 0 → Go Z a0 n0 M R Q t L st H ce sl) (h2 : x = 0 → Go Z a0 n0 M R Q pc' L st H ce sl) : Go Z a0 n0 M R Q pc L (.int x :: st) H ce sl :=
  go_if t hd ht (fun q => h1 ((hold_ne x 0).1.mp ((if0 _ _).symm.trans q))) (fun q => h2 ((hold_ne x 0).2.mp ((if0 _ _).symm.trans q)))
theorem go_ifnull {o : Int} {b : Addr} (hd : Ins M pc (.ifnull o) 3 pc') (h : Go Z a0 n0 M R Q pc' L st H ce sl) : Go Z a0 n0 M R Q pc L (.ref b :: st) H ce sl := by
  obtain ⟨hd, rfl⟩ := hd
  exact go_pure (fun p e m below c T t hA hx hy k => XS.ifnullNo hA hx rfl (hb hy hd) rfl k) h
theorem go_ifnonnull {o : Int} {b : Addr} (t : Nat) (hd : Ins M pc (.ifnonnull o) 3 pc') (ht : (pc : Int) + o = (t : Int)) (h : Go Z a0 n0 M R Q t L st H ce sl) : Go Z a0 n0 M R Q pc L (.ref b :: st) H ce sl := by
  obtain ⟨hd, rfl⟩ := hd
  exact go_pure (fun p e m below c T u hA hx hy k => XT.ifnonnullYes hA hx rfl (pc0 := pc) (pc' := t) rfl (hb hy hd) rfl (by omega) (by omega) k) h
theorem set_app {α : Type} (A B : List α) (o w : α) {k : Nat} (hA : A.length = k) : (A ++ o :: B).toArray.setIfInBounds k w = (A ++ w :: B).toArray := by
  subst hA; simp
theorem get_app {α : Type} (A B : List α) (o : α) {k : Nat} (hA : A.length = k) : (A ++ o :: B).toArray[k]? = some o := by
  subst hA; simp
theorem sto2 {A B : List Slot} {o1 o2 : Slot} {x : Int64} {k : Nat} (hA : A.length = k) (ho : (One o1 ∧ One o2) ∨ ∃ y : Int64, o1 = .val (.long y) ∧ o2 = .second) : storeLocals (A ++ o1 :: o2 :: B).toArray k (.long x) = some (A ++ .val (.long x) :: .second :: B).toArray := by
  subst hA
  rcases ho with ⟨h1, h2⟩ | ⟨y, rfl, rfl⟩
  · rcases h1 with rfl | ⟨w, rfl, hw⟩ <;> rcases h2 with rfl | ⟨w', rfl, hw'⟩ <;> simp [storeLocals, storeSelf, setAt, *] <;> simp [Value.category]
  · simp [storeLocals, storeSelf, setAt, Value.category]
theorem go_istoreG {k : Nat} {A B : List Slot} {o : Slot} {x : Int32} (hA : A.length = k) (ho : One o) (hd : Ins M pc (.istore k) 2 pc') (h : Go Z a0 n0 M R Q pc' (A ++ .val (.int x) :: B) st H ce sl) : Go Z a0 n0 M R Q pc (A ++ o :: B) (.int x :: st) H ce sl := by
  obtain ⟨hd, rfl⟩ := hd
  exact go_pure (fun p e m below c T t hA' hx hy k => XS.istore hA' hx rfl (hb hy hd) rfl (XS.store1 (get_app A B o hA) ho rfl) (by rw [set_app A B o _ hA]; exact k)) h
theorem go_istoreNG {k : Fin 4} {A B : List Slot} {o : Slot} {x : Int32} (hA : A.length = k.val) (ho : One o) (hd : Ins M pc (.istore_n k) 1 pc') (h : Go Z a0 n0 M R Q pc' (A ++ .val (.int x) :: B) st H ce sl) : Go Z a0 n0 M R Q pc (A ++ o :: B) (.int x :: st) H ce sl := by
  obtain ⟨hd, rfl⟩ := hd
  exact go_pure (fun p e m below c T t hA' hx hy k => XS.istoreN hA' hx rfl (hb hy hd) rfl (XS.store1 (get_app A B o hA) ho rfl) (by rw [set_app A B o _ hA]; exact k)) h
theorem go_astoreG {k : Nat} {A B : List Slot} {o : Slot} {x : Addr} (hA : A.length = k) (ho : One o) (hd : Ins M pc (.astore k) 2 pc') (h : Go Z a0 n0 M R Q pc' (A ++ .val (.ref x) :: B) st H ce sl) : Go Z a0 n0 M R Q pc (A ++ o :: B) (.ref x :: st) H ce sl := by
  obtain ⟨hd, rfl⟩ := hd
  exact go_pure (fun p e m below c T t hA' hx hy k => XS.astore hA' hx rfl (hb hy hd) rfl rfl (XS.store1 (get_app A B o hA) ho rfl) (by rw [set_app A B o _ hA]; exact k)) h
theorem go_astoreNG {k : Fin 4} {A B : List Slot} {o : Slot} {x : Addr} (hA : A.length = k.val) (ho : One o) (hd : Ins M pc (.astore_n k) 1 pc') (h : Go Z a0 n0 M R Q pc' (A ++ .val (.ref x) :: B) st H ce sl) : Go Z a0 n0 M R Q pc (A ++ o :: B) (.ref x :: st) H ce sl := by
  obtain ⟨hd, rfl⟩ := hd
  exact go_pure (fun p e m below c T t hA' hx hy k => XS.astoreN hA' hx rfl (hb hy hd) rfl rfl (XS.store1 (get_app A B o hA) ho rfl) (by rw [set_app A B o _ hA]; exact k)) h
theorem go_lstoreG {k : Nat} {A B : List Slot} {o o' : Slot} {x : Int64} (hA : A.length = k) (ho : (One o ∧ One o') ∨ ∃ y : Int64, o = .val (.long y) ∧ o' = .second) (hd : Ins M pc (.lstore k) 2 pc') (h : Go Z a0 n0 M R Q pc' (A ++ .val (.long x) :: .second :: B) st H ce sl) : Go Z a0 n0 M R Q pc (A ++ o :: o' :: B) (.long x :: st) H ce sl := by
  obtain ⟨hd, rfl⟩ := hd
  exact go_pure (fun p e m below c T t hA' hx hy k => XT.lstore hA' hx rfl (hb hy hd) rfl (sto2 hA ho) k) h
theorem go_lstoreNG {k : Fin 4} {A B : List Slot} {o o' : Slot} {x : Int64} (hA : A.length = k.val) (ho : (One o ∧ One o') ∨ ∃ y : Int64, o = .val (.long y) ∧ o' = .second) (hd : Ins M pc (.lstore_n k) 1 pc') (h : Go Z a0 n0 M R Q pc' (A ++ .val (.long x) :: .second :: B) st H ce sl) : Go Z a0 n0 M R Q pc (A ++ o :: o' :: B) (.long x :: st) H ce sl := by
  obtain ⟨hd, rfl⟩ := hd
  exact go_pure (fun p e m below c T t hA' hx hy k => XT.lstoreN hA' hx rfl (hb hy hd) rfl (sto2 hA ho) k) h
theorem go_iincG {k : Nat} {A B : List Slot} {cst : Int} {x v : Int32} (hA : A.length = k) (hd : Ins M pc (.iinc k cst) 3 pc') (hv : x + Int32.ofInt cst = v) (h : Go Z a0 n0 M R Q pc' (A ++ .val (.int v) :: B) st H ce sl) : Go Z a0 n0 M R Q pc (A ++ .val (.int x) :: B) st H ce sl := by
  obtain ⟨hd, rfl⟩ := hd
  subst hv
  exact go_pure (fun p e m below c T t hA' hx hy k => XS.iinc hA' hx rfl (hb hy hd) (get_app A B (.val (.int x)) hA) (XS.store1 (get_app A B (.val (.int x)) hA) (One.val rfl) rfl) (by rw [set_app A B (.val (.int x)) _ hA]; exact k)) h
theorem go_istore0 {o : Slot} {B : List Slot} {x : Int32} (hd : Ins M pc (.istore_n 0) 1 pc') (ho : One o) (h : Go Z a0 n0 M R Q pc' (.val (.int x) :: B) st H ce sl) : Go Z a0 n0 M R Q pc (o :: B) (.int x :: st) H ce sl := go_istoreNG (A := []) rfl ho hd h
theorem go_astore0 {o : Slot} {B : List Slot} {x : Addr} (hd : Ins M pc (.astore_n 0) 1 pc') (ho : One o) (h : Go Z a0 n0 M R Q pc' (.val (.ref x) :: B) st H ce sl) : Go Z a0 n0 M R Q pc (o :: B) (.ref x :: st) H ce sl := go_astoreNG (A := []) rfl ho hd h
theorem go_lstore0 {o o' : Slot} {B : List Slot} {x : Int64} (hd : Ins M pc (.lstore_n 0) 1 pc') (ho : (One o ∧ One o') ∨ ∃ y : Int64, o = .val (.long y) ∧ o' = .second) (h : Go Z a0 n0 M R Q pc' (.val (.long x) :: .second :: B) st H ce sl) : Go Z a0 n0 M R Q pc (o :: o' :: B) (.long x :: st) H ce sl := go_lstoreNG (A := []) rfl ho hd h
theorem go_iinc0 {B : List Slot} {cst : Int} {x v : Int32} (hd : Ins M pc (.iinc 0 cst) 3 pc') (hv : x + Int32.ofInt cst = v) (h : Go Z a0 n0 M R Q pc' (.val (.int v) :: B) st H ce sl) : Go Z a0 n0 M R Q pc (.val (.int x) :: B) st H ce sl := go_iincG (A := []) rfl hd hv h
theorem go_istore1 {s0 o : Slot} {B : List Slot} {x : Int32} (hd : Ins M pc (.istore_n 1) 1 pc') (ho : One o) (h : Go Z a0 n0 M R Q pc' (s0 :: .val (.int x) :: B) st H ce sl) : Go Z a0 n0 M R Q pc (s0 :: o :: B) (.int x :: st) H ce sl := go_istoreNG (A := [s0]) rfl ho hd h
theorem go_astore1 {s0 o : Slot} {B : List Slot} {x : Addr} (hd : Ins M pc (.astore_n 1) 1 pc') (ho : One o) (h : Go Z a0 n0 M R Q pc' (s0 :: .val (.ref x) :: B) st H ce sl) : Go Z a0 n0 M R Q pc (s0 :: o :: B) (.ref x :: st) H ce sl := go_astoreNG (A := [s0]) rfl ho hd h
theorem go_lstore1 {s0 o o' : Slot} {B : List Slot} {x : Int64} (hd : Ins M pc (.lstore_n 1) 1 pc') (ho : (One o ∧ One o') ∨ ∃ y : Int64, o = .val (.long y) ∧ o' = .second) (h : Go Z a0 n0 M R Q pc' (s0 :: .val (.long x) :: .second :: B) st H ce sl) : Go Z a0 n0 M R Q pc (s0 :: o :: o' :: B) (.long x :: st) H ce sl := go_lstoreNG (A := [s0]) rfl ho hd h
theorem go_iinc1 {s0 : Slot} {B : List Slot} {cst : Int} {x v : Int32} (hd : Ins M pc (.iinc 1 cst) 3 pc') (hv : x + Int32.ofInt cst = v) (h : Go Z a0 n0 M R Q pc' (s0 :: .val (.int v) :: B) st H ce sl) : Go Z a0 n0 M R Q pc (s0 :: .val (.int x) :: B) st H ce sl := go_iincG (A := [s0]) rfl hd hv h
theorem go_istore2 {s0 s1 o : Slot} {B : List Slot} {x : Int32} (hd : Ins M pc (.istore_n 2) 1 pc') (ho : One o) (h : Go Z a0 n0 M R Q pc' (s0 :: s1 :: .val (.int x) :: B) st H ce sl) : Go Z a0 n0 M R Q pc (s0 :: s1 :: o :: B) (.int x :: st) H ce sl := go_istoreNG (A := [s0, s1]) rfl ho hd h
theorem go_astore2 {s0 s1 o : Slot} {B : List Slot} {x : Addr} (hd : Ins M pc (.astore_n 2) 1 pc') (ho : One o) (h : Go Z a0 n0 M R Q pc' (s0 :: s1 :: .val (.ref x) :: B) st H ce sl) : Go Z a0 n0 M R Q pc (s0 :: s1 :: o :: B) (.ref x :: st) H ce sl := go_astoreNG (A := [s0, s1]) rfl ho hd h
theorem go_lstore2 {s0 s1 o o' : Slot} {B : List Slot} {x : Int64} (hd : Ins M pc (.lstore_n 2) 1 pc') (ho : (One o ∧ One o') ∨ ∃ y : Int64, o = .val (.long y) ∧ o' = .second) (h : Go Z a0 n0 M R Q pc' (s0 :: s1 :: .val (.long x) :: .second :: B) st H ce sl) : Go Z a0 n0 M R Q pc (s0 :: s1 :: o :: o' :: B) (.long x :: st) H ce sl := go_lstoreNG (A := [s0, s1]) rfl ho hd h
theorem go_iinc2 {s0 s1 : Slot} {B : List Slot} {cst : Int} {x v : Int32} (hd : Ins M pc (.iinc 2 cst) 3 pc') (hv : x + Int32.ofInt cst = v) (h : Go Z a0 n0 M R Q pc' (s0 :: s1 :: .val (.int v) :: B) st H ce sl) : Go Z a0 n0 M R Q pc (s0 :: s1 :: .val (.int x) :: B) st H ce sl := go_iincG (A := [s0, s1]) rfl hd hv h
theorem go_istore3 {s0 s1 s2 o : Slot} {B : List Slot} {x : Int32} (hd : Ins M pc (.istore_n 3) 1 pc') (ho : One o) (h : Go Z a0 n0 M R Q pc' (s0 :: s1 :: s2 :: .val (.int x) :: B) st H ce sl) : Go Z a0 n0 M R Q pc (s0 :: s1 :: s2 :: o :: B) (.int x :: st) H ce sl := go_istoreNG (A := [s0, s1, s2]) rfl ho hd h
theorem go_astore3 {s0 s1 s2 o : Slot} {B : List Slot} {x : Addr} (hd : Ins M pc (.astore_n 3) 1 pc') (ho : One o) (h : Go Z a0 n0 M R Q pc' (s0 :: s1 :: s2 :: .val (.ref x) :: B) st H ce sl) : Go Z a0 n0 M R Q pc (s0 :: s1 :: s2 :: o :: B) (.ref x :: st) H ce sl := go_astoreNG (A := [s0, s1, s2]) rfl ho hd h
theorem go_lstore3 {s0 s1 s2 o o' : Slot} {B : List Slot} {x : Int64} (hd : Ins M pc (.lstore_n 3) 1 pc') (ho : (One o ∧ One o') ∨ ∃ y : Int64, o = .val (.long y) ∧ o' = .second) (h : Go Z a0 n0 M R Q pc' (s0 :: s1 :: s2 :: .val (.long x) :: .second :: B) st H ce sl) : Go Z a0 n0 M R Q pc (s0 :: s1 :: s2 :: o :: o' :: B) (.long x :: st) H ce sl := go_lstoreNG (A := [s0, s1, s2]) rfl ho hd h
theorem go_iinc3 {s0 s1 s2 : Slot} {B : List Slot} {cst : Int} {x v : Int32} (hd : Ins M pc (.iinc 3 cst) 3 pc') (hv : x + Int32.ofInt cst = v) (h : Go Z a0 n0 M R Q pc' (s0 :: s1 :: s2 :: .val (.int v) :: B) st H ce sl) : Go Z a0 n0 M R Q pc (s0 :: s1 :: s2 :: .val (.int x) :: B) st H ce sl := go_iincG (A := [s0, s1, s2]) rfl hd hv h
theorem go_istore4 {s0 s1 s2 s3 o : Slot} {B : List Slot} {x : Int32} (hd : Ins M pc (.istore 4) 2 pc') (ho : One o) (h : Go Z a0 n0 M R Q pc' (s0 :: s1 :: s2 :: s3 :: .val (.int x) :: B) st H ce sl) : Go Z a0 n0 M R Q pc (s0 :: s1 :: s2 :: s3 :: o :: B) (.int x :: st) H ce sl := go_istoreG (A := [s0, s1, s2, s3]) rfl ho hd h
theorem go_astore4 {s0 s1 s2 s3 o : Slot} {B : List Slot} {x : Addr} (hd : Ins M pc (.astore 4) 2 pc') (ho : One o) (h : Go Z a0 n0 M R Q pc' (s0 :: s1 :: s2 :: s3 :: .val (.ref x) :: B) st H ce sl) : Go Z a0 n0 M R Q pc (s0 :: s1 :: s2 :: s3 :: o :: B) (.ref x :: st) H ce sl := go_astoreG (A := [s0, s1, s2, s3]) rfl ho hd h
theorem go_lstore4 {s0 s1 s2 s3 o o' : Slot} {B : List Slot} {x : Int64} (hd : Ins M pc (.lstore 4) 2 pc') (ho : (One o ∧ One o') ∨ ∃ y : Int64, o = .val (.long y) ∧ o' = .second) (h : Go Z a0 n0 M R Q pc' (s0 :: s1 :: s2 :: s3 :: .val (.long x) :: .second :: B) st H ce sl) : Go Z a0 n0 M R Q pc (s0 :: s1 :: s2 :: s3 :: o :: o' :: B) (.long x :: st) H ce sl := go_lstoreG (A := [s0, s1, s2, s3]) rfl ho hd h
theorem go_iinc4 {s0 s1 s2 s3 : Slot} {B : List Slot} {cst : Int} {x v : Int32} (hd : Ins M pc (.iinc 4 cst) 3 pc') (hv : x + Int32.ofInt cst = v) (h : Go Z a0 n0 M R Q pc' (s0 :: s1 :: s2 :: s3 :: .val (.int v) :: B) st H ce sl) : Go Z a0 n0 M R Q pc (s0 :: s1 :: s2 :: s3 :: .val (.int x) :: B) st H ce sl := go_iincG (A := [s0, s1, s2, s3]) rfl hd hv h
theorem go_istore5 {s0 s1 s2 s3 s4 o : Slot} {B : List Slot} {x : Int32} (hd : Ins M pc (.istore 5) 2 pc') (ho : One o) (h : Go Z a0 n0 M R Q pc' (s0 :: s1 :: s2 :: s3 :: s4 :: .val (.int x) :: B) st H ce sl) : Go Z a0 n0 M R Q pc (s0 :: s1 :: s2 :: s3 :: s4 :: o :: B) (.int x :: st) H ce sl := go_istoreG (A := [s0, s1, s2, s3, s4]) rfl ho hd h
theorem go_astore5 {s0 s1 s2 s3 s4 o : Slot} {B : List Slot} {x : Addr} (hd : Ins M pc (.astore 5) 2 pc') (ho : One o) (h : Go Z a0 n0 M R Q pc' (s0 :: s1 :: s2 :: s3 :: s4 :: .val (.ref x) :: B) st H ce sl) : Go Z a0 n0 M R Q pc (s0 :: s1 :: s2 :: s3 :: s4 :: o :: B) (.ref x :: st) H ce sl := go_astoreG (A := [s0, s1, s2, s3, s4]) rfl ho hd h
theorem go_lstore5 {s0 s1 s2 s3 s4 o o' : Slot} {B : List Slot} {x : Int64} (hd : Ins M pc (.lstore 5) 2 pc') (ho : (One o ∧ One o') ∨ ∃ y : Int64, o = .val (.long y) ∧ o' = .second) (h : Go Z a0 n0 M R Q pc' (s0 :: s1 :: s2 :: s3 :: s4 :: .val (.long x) :: .second :: B) st H ce sl) : Go Z a0 n0 M R Q pc (s0 :: s1 :: s2 :: s3 :: s4 :: o :: o' :: B) (.long x :: st) H ce sl := go_lstoreG (A := [s0, s1, s2, s3, s4]) rfl ho hd h
theorem go_iinc5 {s0 s1 s2 s3 s4 : Slot} {B : List Slot} {cst : Int} {x v : Int32} (hd : Ins M pc (.iinc 5 cst) 3 pc') (hv : x + Int32.ofInt cst = v) (h : Go Z a0 n0 M R Q pc' (s0 :: s1 :: s2 :: s3 :: s4 :: .val (.int v) :: B) st H ce sl) : Go Z a0 n0 M R Q pc (s0 :: s1 :: s2 :: s3 :: s4 :: .val (.int x) :: B) st H ce sl := go_iincG (A := [s0, s1, s2, s3, s4]) rfl hd hv h
theorem go_istore6 {s0 s1 s2 s3 s4 s5 o : Slot} {B : List Slot} {x : Int32} (hd : Ins M pc (.istore 6) 2 pc') (ho : One o) (h : Go Z a0 n0 M R Q pc' (s0 :: s1 :: s2 :: s3 :: s4 :: s5 :: .val (.int x) :: B) st H ce sl) : Go Z a0 n0 M R Q pc (s0 :: s1 :: s2 :: s3 :: s4 :: s5 :: o :: B) (.int x :: st) H ce sl := go_istoreG (A := [s0, s1, s2, s3, s4, s5]) rfl ho hd h
theorem go_astore6 {s0 s1 s2 s3 s4 s5 o : Slot} {B : List Slot} {x : Addr} (hd : Ins M pc (.astore 6) 2 pc') (ho : One o) (h : Go Z a0 n0 M R Q pc' (s0 :: s1 :: s2 :: s3 :: s4 :: s5 :: .val (.ref x) :: B) st H ce sl) : Go Z a0 n0 M R Q pc (s0 :: s1 :: s2 :: s3 :: s4 :: s5 :: o :: B) (.ref x :: st) H ce sl := go_astoreG (A := [s0, s1, s2, s3, s4, s5]) rfl ho hd h
theorem go_lstore6 {s0 s1 s2 s3 s4 s5 o o' : Slot} {B : List Slot} {x : Int64} (hd : Ins M pc (.lstore 6) 2 pc') (ho : (One o ∧ One o') ∨ ∃ y : Int64, o = .val (.long y) ∧ o' = .second) (h : Go Z a0 n0 M R Q pc' (s0 :: s1 :: s2 :: s3 :: s4 :: s5 :: .val (.long x) :: .second :: B) st H ce sl) : Go Z a0 n0 M R Q pc (s0 :: s1 :: s2 :: s3 :: s4 :: s5 :: o :: o' :: B) (.long x :: st) H ce sl := go_lstoreG (A := [s0, s1, s2, s3, s4, s5]) rfl ho hd h
theorem go_iinc6 {s0 s1 s2 s3 s4 s5 : Slot} {B : List Slot} {cst : Int} {x v : Int32} (hd : Ins M pc (.iinc 6 cst) 3 pc') (hv : x + Int32.ofInt cst = v) (h : Go Z a0 n0 M R Q pc' (s0 :: s1 :: s2 :: s3 :: s4 :: s5 :: .val (.int v) :: B) st H ce sl) : Go Z a0 n0 M R Q pc (s0 :: s1 :: s2 :: s3 :: s4 :: s5 :: .val (.int x) :: B) st H ce sl := go_iincG (A := [s0, s1, s2, s3, s4, s5]) rfl hd hv h
theorem go_istore7 {s0 s1 s2 s3 s4 s5 s6 o : Slot} {B : List Slot} {x : Int32} (hd : Ins M pc (.istore 7) 2 pc') (ho : One o) (h : Go Z a0 n0 M R Q pc' (s0 :: s1 :: s2 :: s3 :: s4 :: s5 :: s6 :: .val (.int x) :: B) st H ce sl) : Go Z a0 n0 M R Q pc (s0 :: s1 :: s2 :: s3 :: s4 :: s5 :: s6 :: o :: B) (.int x :: st) H ce sl := go_istoreG (A := [s0, s1, s2, s3, s4, s5, s6]) rfl ho hd h
theorem go_astore7 {s0 s1 s2 s3 s4 s5 s6 o : Slot} {B : List Slot} {x : Addr} (hd : Ins M pc (.astore 7) 2 pc') (ho : One o) (h : Go Z a0 n0 M R Q pc' (s0 :: s1 :: s2 :: s3 :: s4 :: s5 :: s6 :: .val (.ref x) :: B) st H ce sl) : Go Z a0 n0 M R Q pc (s0 :: s1 :: s2 :: s3 :: s4 :: s5 :: s6 :: o :: B) (.ref x :: st) H ce sl := go_astoreG (A := [s0, s1, s2, s3, s4, s5, s6]) rfl ho hd h
theorem go_lstore7 {s0 s1 s2 s3 s4 s5 s6 o o' : Slot} {B : List Slot} {x : Int64} (hd : Ins M pc (.lstore 7) 2 pc') (ho : (One o ∧ One o') ∨ ∃ y : Int64, o = .val (.long y) ∧ o' = .second) (h : Go Z a0 n0 M R Q pc' (s0 :: s1 :: s2 :: s3 :: s4 :: s5 :: s6 :: .val (.long x) :: .second :: B) st H ce sl) : Go Z a0 n0 M R Q pc (s0 :: s1 :: s2 :: s3 :: s4 :: s5 :: s6 :: o :: o' :: B) (.long x :: st) H ce sl := go_lstoreG (A := [s0, s1, s2, s3, s4, s5, s6]) rfl ho hd h
theorem go_iinc7 {s0 s1 s2 s3 s4 s5 s6 : Slot} {B : List Slot} {cst : Int} {x v : Int32} (hd : Ins M pc (.iinc 7 cst) 3 pc') (hv : x + Int32.ofInt cst = v) (h : Go Z a0 n0 M R Q pc' (s0 :: s1 :: s2 :: s3 :: s4 :: s5 :: s6 :: .val (.int v) :: B) st H ce sl) : Go Z a0 n0 M R Q pc (s0 :: s1 :: s2 :: s3 :: s4 :: s5 :: s6 :: .val (.int x) :: B) st H ce sl := go_iincG (A := [s0, s1, s2, s3, s4, s5, s6]) rfl hd hv h
theorem go_istore8 {s0 s1 s2 s3 s4 s5 s6 s7 o : Slot} {B : List Slot} {x : Int32} (hd : Ins M pc (.istore 8) 2 pc') (ho : One o) (h : Go Z a0 n0 M R Q pc' (s0 :: s1 :: s2 :: s3 :: s4 :: s5 :: s6 :: s7 :: .val (.int x) :: B) st H ce sl) : Go Z a0 n0 M R Q pc (s0 :: s1 :: s2 :: s3 :: s4 :: s5 :: s6 :: s7 :: o :: B) (.int x :: st) H ce sl := go_istoreG (A := [s0, s1, s2, s3, s4, s5, s6, s7]) rfl ho hd h
theorem go_astore8 {s0 s1 s2 s3 s4 s5 s6 s7 o : Slot} {B : List Slot} {x : Addr} (hd : Ins M pc (.astore 8) 2 pc') (ho : One o) (h : Go Z a0 n0 M R Q pc' (s0 :: s1 :: s2 :: s3 :: s4 :: s5 :: s6 :: s7 :: .val (.ref x) :: B) st H ce sl) : Go Z a0 n0 M R Q pc (s0 :: s1 :: s2 :: s3 :: s4 :: s5 :: s6 :: s7 :: o :: B) (.ref x :: st) H ce sl := go_astoreG (A := [s0, s1, s2, s3, s4, s5, s6, s7]) rfl ho hd h
theorem go_lstore8 {s0 s1 s2 s3 s4 s5 s6 s7 o o' : Slot} {B : List Slot} {x : Int64} (hd : Ins M pc (.lstore 8) 2 pc') (ho : (One o ∧ One o') ∨ ∃ y : Int64, o = .val (.long y) ∧ o' = .second) (h : Go Z a0 n0 M R Q pc' (s0 :: s1 :: s2 :: s3 :: s4 :: s5 :: s6 :: s7 :: .val (.long x) :: .second :: B) st H ce sl) : Go Z a0 n0 M R Q pc (s0 :: s1 :: s2 :: s3 :: s4 :: s5 :: s6 :: s7 :: o :: o' :: B) (.long x :: st) H ce sl := go_lstoreG (A := [s0, s1, s2, s3, s4, s5, s6, s7]) rfl ho hd h
theorem go_iinc8 {s0 s1 s2 s3 s4 s5 s6 s7 : Slot} {B : List Slot} {cst : Int} {x v : Int32} (hd : Ins M pc (.iinc 8 cst) 3 pc') (hv : x + Int32.ofInt cst = v) (h : Go Z a0 n0 M R Q pc' (s0 :: s1 :: s2 :: s3 :: s4 :: s5 :: s6 :: s7 :: .val (.int v) :: B) st H ce sl) : Go Z a0 n0 M R Q pc (s0 :: s1 :: s2 :: s3 :: s4 :: s5 :: s6 :: s7 :: .val (.int x) :: B) st H ce sl := go_iincG (A := [s0, s1, s2, s3, s4, s5, s6, s7]) rfl hd hv h
theorem go_istore9 {s0 s1 s2 s3 s4 s5 s6 s7 s8 o : Slot} {B : List Slot} {x : Int32} (hd : Ins M pc (.istore 9) 2 pc') (ho : One o) (h : Go Z a0 n0 M R Q pc' (s0 :: s1 :: s2 :: s3 :: s4 :: s5 :: s6 :: s7 :: s8 :: .val (.int x) :: B) st H ce sl) : Go Z a0 n0 M R Q pc (s0 :: s1 :: s2 :: s3 :: s4 :: s5 :: s6 :: s7 :: s8 :: o :: B) (.int x :: st) H ce sl := go_istoreG (A := [s0, s1, s2, s3, s4, s5, s6, s7, s8]) rfl ho hd h
theorem go_astore9 {s0 s1 s2 s3 s4 s5 s6 s7 s8 o : Slot} {B : List Slot} {x : Addr} (hd : Ins M pc (.astore 9) 2 pc') (ho : One o) (h : Go Z a0 n0 M R Q pc' (s0 :: s1 :: s2 :: s3 :: s4 :: s5 :: s6 :: s7 :: s8 :: .val (.ref x) :: B) st H ce sl) : Go Z a0 n0 M R Q pc (s0 :: s1 :: s2 :: s3 :: s4 :: s5 :: s6 :: s7 :: s8 :: o :: B) (.ref x :: st) H ce sl := go_astoreG (A := [s0, s1, s2, s3, s4, s5, s6, s7, s8]) rfl ho hd h
theorem go_lstore9 {s0 s1 s2 s3 s4 s5 s6 s7 s8 o o' : Slot} {B : List Slot} {x : Int64} (hd : Ins M pc (.lstore 9) 2 pc') (ho : (One o ∧ One o') ∨ ∃ y : Int64, o = .val (.long y) ∧ o' = .second) (h : Go Z a0 n0 M R Q pc' (s0 :: s1 :: s2 :: s3 :: s4 :: s5 :: s6 :: s7 :: s8 :: .val (.long x) :: .second :: B) st H ce sl) : Go Z a0 n0 M R Q pc (s0 :: s1 :: s2 :: s3 :: s4 :: s5 :: s6 :: s7 :: s8 :: o :: o' :: B) (.long x :: st) H ce sl := go_lstoreG (A := [s0, s1, s2, s3, s4, s5, s6, s7, s8]) rfl ho hd h
theorem go_iinc9 {s0 s1 s2 s3 s4 s5 s6 s7 s8 : Slot} {B : List Slot} {cst : Int} {x v : Int32} (hd : Ins M pc (.iinc 9 cst) 3 pc') (hv : x + Int32.ofInt cst = v) (h : Go Z a0 n0 M R Q pc' (s0 :: s1 :: s2 :: s3 :: s4 :: s5 :: s6 :: s7 :: s8 :: .val (.int v) :: B) st H ce sl) : Go Z a0 n0 M R Q pc (s0 :: s1 :: s2 :: s3 :: s4 :: s5 :: s6 :: s7 :: s8 :: .val (.int x) :: B) st H ce sl := go_iincG (A := [s0, s1, s2, s3, s4, s5, s6, s7, s8]) rfl hd hv h
theorem go_istore10 {s0 s1 s2 s3 s4 s5 s6 s7 s8 s9 o : Slot} {B : List Slot} {x : Int32} (hd : Ins M pc (.istore 10) 2 pc') (ho : One o) (h : Go Z a0 n0 M R Q pc' (s0 :: s1 :: s2 :: s3 :: s4 :: s5 :: s6 :: s7 :: s8 :: s9 :: .val (.int x) :: B) st H ce sl) : Go Z a0 n0 M R Q pc (s0 :: s1 :: s2 :: s3 :: s4 :: s5 :: s6 :: s7 :: s8 :: s9 :: o :: B) (.int x :: st) H ce sl := go_istoreG (A := [s0, s1, s2, s3, s4, s5, s6, s7, s8, s9]) rfl ho hd h
theorem go_astore10 {s0 s1 s2 s3 s4 s5 s6 s7 s8 s9 o : Slot} {B : List Slot} {x : Addr} (hd : Ins M pc (.astore 10) 2 pc') (ho : One o) (h : Go Z a0 n0 M R Q pc' (s0 :: s1 :: s2 :: s3 :: s4 :: s5 :: s6 :: s7 :: s8 :: s9 :: .val (.ref x) :: B) st H ce sl) : Go Z a0 n0 M R Q pc (s0 :: s1 :: s2 :: s3 :: s4 :: s5 :: s6 :: s7 :: s8 :: s9 :: o :: B) (.ref x :: st) H ce sl := go_astoreG (A := [s0, s1, s2, s3, s4, s5, s6, s7, s8, s9]) rfl ho hd h
theorem go_lstore10 {s0 s1 s2 s3 s4 s5 s6 s7 s8 s9 o o' : Slot} {B : List Slot} {x : Int64} (hd : Ins M pc (.lstore 10) 2 pc') (ho : (One o ∧ One o') ∨ ∃ y : Int64, o = .val (.long y) ∧ o' = .second) (h : Go Z a0 n0 M R Q pc' (s0 :: s1 :: s2 :: s3 :: s4 :: s5 :: s6 :: s7 :: s8 :: s9 :: .val (.long x) :: .second :: B) st H ce sl) : Go Z a0 n0 M R Q pc (s0 :: s1 :: s2 :: s3 :: s4 :: s5 :: s6 :: s7 :: s8 :: s9 :: o :: o' :: B) (.long x :: st) H ce sl := go_lstoreG (A := [s0, s1, s2, s3, s4, s5, s6, s7, s8, s9]) rfl ho hd h
theorem go_iinc10 {s0 s1 s2 s3 s4 s5 s6 s7 s8 s9 : Slot} {B : List Slot} {cst : Int} {x v : Int32} (hd : Ins M pc (.iinc 10 cst) 3 pc') (hv : x + Int32.ofInt cst = v) (h : Go Z a0 n0 M R Q pc' (s0 :: s1 :: s2 :: s3 :: s4 :: s5 :: s6 :: s7 :: s8 :: s9 :: .val (.int v) :: B) st H ce sl) : Go Z a0 n0 M R Q pc (s0 :: s1 :: s2 :: s3 :: s4 :: s5 :: s6 :: s7 :: s8 :: s9 :: .val (.int x) :: B) st H ce sl := go_iincG (A := [s0, s1, s2, s3, s4, s5, s6, s7, s8, s9]) rfl hd hv h
theorem go_istore11 {s0 s1 s2 s3 s4 s5 s6 s7 s8 s9 s10 o : Slot} {B : List Slot} {x : Int32} (hd : Ins M pc (.istore 11) 2 pc') (ho : One o) (h : Go Z a0 n0 M R Q pc' (s0 :: s1 :: s2 :: s3 :: s4 :: s5 :: s6 :: s7 :: s8 :: s9 :: s10 :: .val (.int x) :: B) st H ce sl) : Go Z a0 n0 M R Q pc (s0 :: s1 :: s2 :: s3 :: s4 :: s5 :: s6 :: s7 :: s8 :: s9 :: s10 :: o :: B) (.int x :: st) H ce sl := go_istoreG (A := [s0, s1, s2, s3, s4, s5, s6, s7, s8, s9, s10]) rfl ho hd h
theorem go_astore11 {s0 s1 s2 s3 s4 s5 s6 s7 s8 s9 s10 o : Slot} {B : List Slot} {x : Addr} (hd : Ins M pc (.astore 11) 2 pc') (ho : One o) (h : Go Z a0 n0 M R Q pc' (s0 :: s1 :: s2 :: s3 :: s4 :: s5 :: s6 :: s7 :: s8 :: s9 :: s10 :: .val (.ref x) :: B) st H ce sl) : Go Z a0 n0 M R Q pc (s0 :: s1 :: s2 :: s3 :: s4 :: s5 :: s6 :: s7 :: s8 :: s9 :: s10 :: o :: B) (.ref x :: st) H ce sl := go_astoreG (A := [s0, s1, s2, s3, s4, s5, s6, s7, s8, s9, s10]) rfl ho hd h
theorem go_lstore11 {s0 s1 s2 s3 s4 s5 s6 s7 s8 s9 s10 o o' : Slot} {B : List Slot} {x : Int64} (hd : Ins M pc (.lstore 11) 2 pc') (ho : (One o ∧ One o') ∨ ∃ y : Int64, o = .val (.long y) ∧ o' = .second) (h : Go Z a0 n0 M R Q pc' (s0 :: s1 :: s2 :: s3 :: s4 :: s5 :: s6 :: s7 :: s8 :: s9 :: s10 :: .val (.long x) :: .second :: B) st H ce sl) : Go Z a0 n0 M R Q pc (s0 :: s1 :: s2 :: s3 :: s4 :: s5 :: s6 :: s7 :: s8 :: s9 :: s10 :: o :: o' :: B) (.long x :: st) H ce sl := go_lstoreG (A := [s0, s1, s2, s3, s4, s5, s6, s7, s8, s9, s10]) rfl ho hd h
theorem go_iinc11 {s0 s1 s2 s3 s4 s5 s6 s7 s8 s9 s10 : Slot} {B : List Slot} {cst : Int} {x v : Int32} (hd : Ins M pc (.iinc 11 cst) 3 pc') (hv : x + Int32.ofInt cst = v) (h : Go Z a0 n0 M R Q pc' (s0 :: s1 :: s2 :: s3 :: s4 :: s5 :: s6 :: s7 :: s8 :: s9 :: s10 :: .val (.int v) :: B) st H ce sl) : Go Z a0 n0 M R Q pc (s0 :: s1 :: s2 :: s3 :: s4 :: s5 :: s6 :: s7 :: s8 :: s9 :: s10 :: .val (.int x) :: B) st H ce sl := go_iincG (A := [s0, s1, s2, s3, s4, s5, s6, s7, s8, s9, s10]) rfl hd hv h
theorem go_istore12 {s0 s1 s2 s3 s4 s5 s6 s7 s8 s9 s10 s11 o : Slot} {B : List Slot} {x : Int32} (hd : Ins M pc (.istore 12) 2 pc') (ho : One o) (h : Go Z a0 n0 M R Q pc' (s0 :: s1 :: s2 :: s3 :: s4 :: s5 :: s6 :: s7 :: s8 :: s9 :: s10 :: s11 :: .val (.int x) :: B) st H ce sl) : Go Z a0 n0 M R Q pc (s0 :: s1 :: s2 :: s3 :: s4 :: s5 :: s6 :: s7 :: s8 :: s9 :: s10 :: s11 :: o :: B) (.int x :: st) H ce sl := go_istoreG (A := [s0, s1, s2, s3, s4, s5, s6, s7, s8, s9, s10, s11]) rfl ho hd h
theorem go_astore12 {s0 s1 s2 s3 s4 s5 s6 s7 s8 s9 s10 s11 o : Slot} {B : List Slot} {x : Addr} (hd : Ins M pc (.astore 12) 2 pc') (ho : One o) (h : Go Z a0 n0 M R Q pc' (s0 :: s1 :: s2 :: s3 :: s4 :: s5 :: s6 :: s7 :: s8 :: s9 :: s10 :: s11 :: .val (.ref x) :: B) st H ce sl) : Go Z a0 n0 M R Q pc (s0 :: s1 :: s2 :: s3 :: s4 :: s5 :: s6 :: s7 :: s8 :: s9 :: s10 :: s11 :: o :: B) (.ref x :: st) H ce sl := go_astoreG (A := [s0, s1, s2, s3, s4, s5, s6, s7, s8, s9, s10, s11]) rfl ho hd h
theorem go_lstore12 {s0 s1 s2 s3 s4 s5 s6 s7 s8 s9 s10 s11 o o' : Slot} {B : List Slot} {x : Int64} (hd : Ins M pc (.lstore 12) 2 pc') (ho : (One o ∧ One o') ∨ ∃ y : Int64, o = .val (.long y) ∧ o' = .second) (h : Go Z a0 n0 M R Q pc' (s0 :: s1 :: s2 :: s3 :: s4 :: s5 :: s6 :: s7 :: s8 :: s9 :: s10 :: s11 :: .val (.long x) :: .second :: B) st H ce sl) : Go Z a0 n0 M R Q pc (s0 :: s1 :: s2 :: s3 :: s4 :: s5 :: s6 :: s7 :: s8 :: s9 :: s10 :: s11 :: o :: o' :: B) (.long x :: st) H ce sl := go_lstoreG (A := [s0, s1, s2, s3, s4, s5, s6, s7, s8, s9, s10, s11]) rfl ho hd h
theorem go_iinc12 {s0 s1 s2 s3 s4 s5 s6 s7 s8 s9 s10 s11 : Slot} {B : List Slot} {cst : Int} {x v : Int32} (hd : Ins M pc (.iinc 12 cst) 3 pc') (hv : x + Int32.ofInt cst = v) (h : Go Z a0 n0 M R Q pc' (s0 :: s1 :: s2 :: s3 :: s4 :: s5 :: s6 :: s7 :: s8 :: s9 :: s10 :: s11 :: .val (.int v) :: B) st H ce sl) : Go Z a0 n0 M R Q pc (s0 :: s1 :: s2 :: s3 :: s4 :: s5 :: s6 :: s7 :: s8 :: s9 :: s10 :: s11 :: .val (.int x) :: B) st H ce sl := go_iincG (A := [s0, s1, s2, s3, s4, s5, s6, s7, s8, s9, s10, s11]) rfl hd hv h
theorem go_istore13 {s0 s1 s2 s3 s4 s5 s6 s7 s8 s9 s10 s11 s12 o : Slot} {B : List Slot} {x : Int32} (hd : Ins M pc (.istore 13) 2 pc') (ho : One o) (h : Go Z a0 n0 M R Q pc' (s0 :: s1 :: s2 :: s3 :: s4 :: s5 :: s6 :: s7 :: s8 :: s9 :: s10 :: s11 :: s12 :: .val (.int x) :: B) st H ce sl) : Go Z a0 n0 M R Q pc (s0 :: s1 :: s2 :: s3 :: s4 :: s5 :: s6 :: s7 :: s8 :: s9 :: s10 :: s11 :: s12 :: o :: B) (.int x :: st) H ce sl := go_istoreG (A := [s0, s1, s2, s3, s4, s5, s6, s7, s8, s9, s10, s11, s12]) rfl ho hd h
theorem go_astore13 {s0 s1 s2 s3 s4 s5 s6 s7 s8 s9 s10 s11 s12 o : Slot} {B : List Slot} {x : Addr} (hd : Ins M pc (.astore 13) 2 pc') (ho : One o) (h : Go Z a0 n0 M R Q pc' (s0 :: s1 :: s2 :: s3 :: s4 :: s5 :: s6 :: s7 :: s8 :: s9 :: s10 :: s11 :: s12 :: .val (.ref x) :: B) st H ce sl) : Go Z a0 n0 M R Q pc (s0 :: s1 :: s2 :: s3 :: s4 :: s5 :: s6 :: s7 :: s8 :: s9 :: s10 :: s11 :: s12 :: o :: B) (.ref x :: st) H ce sl := go_astoreG (A := [s0, s1, s2, s3, s4, s5, s6, s7, s8, s9, s10, s11, s12]) rfl ho hd h
theorem go_lstore13 {s0 s1 s2 s3 s4 s5 s6 s7 s8 s9 s10 s11 s12 o o' : Slot} {B : List Slot} {x : Int64} (hd : Ins M pc (.lstore 13) 2 pc') (ho : (One o ∧ One o') ∨ ∃ y : Int64, o = .val (.long y) ∧ o' = .second) (h : Go Z a0 n0 M R Q pc' (s0 :: s1 :: s2 :: s3 :: s4 :: s5 :: s6 :: s7 :: s8 :: s9 :: s10 :: s11 :: s12 :: .val (.long x) :: .second :: B) st H ce sl) : Go Z a0 n0 M R Q pc (s0 :: s1 :: s2 :: s3 :: s4 :: s5 :: s6 :: s7 :: s8 :: s9 :: s10 :: s11 :: s12 :: o :: o' :: B) (.long x :: st) H ce sl := go_lstoreG (A := [s0, s1, s2, s3, s4, s5, s6, s7, s8, s9, s10, s11, s12]) rfl ho hd h
theorem go_iinc13 {s0 s1 s2 s3 s4 s5 s6 s7 s8 s9 s10 s11 s12 : Slot} {B : List Slot} {cst : Int} {x v : Int32} (hd : Ins M pc (.iinc 13 cst) 3 pc') (hv : x + Int32.ofInt cst = v) (h : Go Z a0 n0 M R Q pc' (s0 :: s1 :: s2 :: s3 :: s4 :: s5 :: s6 :: s7 :: s8 :: s9 :: s10 :: s11 :: s12 :: .val (.int v) :: B) st H ce sl) : Go Z a0 n0 M R Q pc (s0 :: s1 :: s2 :: s3 :: s4 :: s5 :: s6 :: s7 :: s8 :: s9 :: s10 :: s11 :: s12 :: .val (.int x) :: B) st H ce sl := go_iincG (A := [s0, s1, s2, s3, s4, s5, s6, s7, s8, s9, s10, s11, s12]) rfl hd hv h
theorem go_istore14 {s0 s1 s2 s3 s4 s5 s6 s7 s8 s9 s10 s11 s12 s13 o : Slot} {B : List Slot} {x : Int32} (hd : Ins M pc (.istore 14) 2 pc') (ho : One o) (h : Go Z a0 n0 M R Q pc' (s0 :: s1 :: s2 :: s3 :: s4 :: s5 :: s6 :: s7 :: s8 :: s9 :: s10 :: s11 :: s12 :: s13 :: .val (.int x) :: B) st H ce sl) : Go Z a0 n0 M R Q pc (s0 :: s1 :: s2 :: s3 :: s4 :: s5 :: s6 :: s7 :: s8 :: s9 :: s10 :: s11 :: s12 :: s13 :: o :: B) (.int x :: st) H ce sl := go_istoreG (A := [s0, s1, s2, s3, s4, s5, s6, s7, s8, s9, s10, s11, s12, s13]) rfl ho hd h
theorem go_astore14 {s0 s1 s2 s3 s4 s5 s6 s7 s8 s9 s10 s11 s12 s13 o : Slot} {B : List Slot} {x : Addr} (hd : Ins M pc (.astore 14) 2 pc') (ho : One o) (h : Go Z a0 n0 M R Q pc' (s0 :: s1 :: s2 :: s3 :: s4 :: s5 :: s6 :: s7 :: s8 :: s9 :: s10 :: s11 :: s12 :: s13 :: .val (.ref x) :: B) st H ce sl) : Go Z a0 n0 M R Q pc (s0 :: s1 :: s2 :: s3 :: s4 :: s5 :: s6 :: s7 :: s8 :: s9 :: s10 :: s11 :: s12 :: s13 :: o :: B) (.ref x :: st) H ce sl := go_astoreG (A := [s0, s1, s2, s3, s4, s5, s6, s7, s8, s9, s10, s11, s12, s13]) rfl ho hd h
theorem go_lstore14 {s0 s1 s2 s3 s4 s5 s6 s7 s8 s9 s10 s11 s12 s13 o o' : Slot} {B : List Slot} {x : Int64} (hd : Ins M pc (.lstore 14) 2 pc') (ho : (One o ∧ One o') ∨ ∃ y : Int64, o = .val (.long y) ∧ o' = .second) (h : Go Z a0 n0 M R Q pc' (s0 :: s1 :: s2 :: s3 :: s4 :: s5 :: s6 :: s7 :: s8 :: s9 :: s10 :: s11 :: s12 :: s13 :: .val (.long x) :: .second :: B) st H ce sl) : Go Z a0 n0 M R Q pc (s0 :: s1 :: s2 :: s3 :: s4 :: s5 :: s6 :: s7 :: s8 :: s9 :: s10 :: s11 :: s12 :: s13 :: o :: o' :: B) (.long x :: st) H ce sl := go_lstoreG (A := [s0, s1, s2, s3, s4, s5, s6, s7, s8, s9, s10, s11, s12, s13]) rfl ho hd h
theorem go_iinc14 {s0 s1 s2 s3 s4 s5 s6 s7 s8 s9 s10 s11 s12 s13 : Slot} {B : List Slot} {cst : Int} {x v : Int32} (hd : Ins M pc (.iinc 14 cst) 3 pc') (hv : x + Int32.ofInt cst = v) (h : Go Z a0 n0 M R Q pc' (s0 :: s1 :: s2 :: s3 :: s4 :: s5 :: s6 :: s7 :: s8 :: s9 :: s10 :: s11 :: s12 :: s13 :: .val (.int v) :: B) st H ce sl) : Go Z a0 n0 M R Q pc (s0 :: s1 :: s2 :: s3 :: s4 :: s5 :: s6 :: s7 :: s8 :: s9 :: s10 :: s11 :: s12 :: s13 :: .val (.int x) :: B) st H ce sl := go_iincG (A := [s0, s1, s2, s3, s4, s5, s6, s7, s8, s9, s10, s11, s12, s13]) rfl hd hv h
theorem go_istore15 {s0 s1 s2 s3 s4 s5 s6 s7 s8 s9 s10 s11 s12 s13 s14 o : Slot} {B : List Slot} {x : Int32} (hd : Ins M pc (.istore 15) 2 pc') (ho : One o) (h : Go Z a0 n0 M R Q pc' (s0 :: s1 :: s2 :: s3 :: s4 :: s5 :: s6 :: s7 :: s8 :: s9 :: s10 :: s11 :: s12 :: s13 :: s14 :: .val (.int x) :: B) st H ce sl) : Go Z a0 n0 M R Q pc (s0 :: s1 :: s2 :: s3 :: s4 :: s5 :: s6 :: s7 :: s8 :: s9 :: s10 :: s11 :: s12 :: s13 :: s14 :: o :: B) (.int x :: st) H ce sl := go_istoreG (A := [s0, s1, s2, s3, s4, s5, s6, s7, s8, s9, s10, s11, s12, s13, s14]) rfl ho hd h
theorem go_astore15 {s0 s1 s2 s3 s4 s5 s6 s7 s8 s9 s10 s11 s12 s13 s14 o : Slot} {B : List Slot} {x : Addr} (hd : Ins M pc (.astore 15) 2 pc') (ho : One o) (h : Go Z a0 n0 M R Q pc' (s0 :: s1 :: s2 :: s3 :: s4 :: s5 :: s6 :: s7 :: s8 :: s9 :: s10 :: s11 :: s12 :: s13 :: s14 :: .val (.ref x) :: B) st H ce sl) : Go Z a0 n0 M R Q pc (s0 :: s1 :: s2 :: s3 :: s4 :: s5 :: s6 :: s7 :: s8 :: s9 :: s10 :: s11 :: s12 :: s13 :: s14 :: o :: B) (.ref x :: st) H ce sl := go_astoreG (A := [s0, s1, s2, s3, s4, s5, s6, s7, s8, s9, s10, s11, s12, s13, s14]) rfl ho hd h
theorem go_lstore15 {s0 s1 s2 s3 s4 s5 s6 s7 s8 s9 s10 s11 s12 s13 s14 o o' : Slot} {B : List Slot} {x : Int64} (hd : Ins M pc (.lstore 15) 2 pc') (ho : (One o ∧ One o') ∨ ∃ y : Int64, o = .val (.long y) ∧ o' = .second) (h : Go Z a0 n0 M R Q pc' (s0 :: s1 :: s2 :: s3 :: s4 :: s5 :: s6 :: s7 :: s8 :: s9 :: s10 :: s11 :: s12 :: s13 :: s14 :: .val (.long x) :: .second :: B) st H ce sl) : Go Z a0 n0 M R Q pc (s0 :: s1 :: s2 :: s3 :: s4 :: s5 :: s6 :: s7 :: s8 :: s9 :: s10 :: s11 :: s12 :: s13 :: s14 :: o :: o' :: B) (.long x :: st) H ce sl := go_lstoreG (A := [s0, s1, s2, s3, s4, s5, s6, s7, s8, s9, s10, s11, s12, s13, s14]) rfl ho hd h
theorem go_iinc15 {s0 s1 s2 s3 s4 s5 s6 s7 s8 s9 s10 s11 s12 s13 s14 : Slot} {B : List Slot} {cst : Int} {x v : Int32} (hd : Ins M pc (.iinc 15 cst) 3 pc') (hv : x + Int32.ofInt cst = v) (h : Go Z a0 n0 M R Q pc' (s0 :: s1 :: s2 :: s3 :: s4 :: s5 :: s6 :: s7 :: s8 :: s9 :: s10 :: s11 :: s12 :: s13 :: s14 :: .val (.int v) :: B) st H ce sl) : Go Z a0 n0 M R Q pc (s0 :: s1 :: s2 :: s3 :: s4 :: s5 :: s6 :: s7 :: s8 :: s9 :: s10 :: s11 :: s12 :: s13 :: s14 :: .val (.int x) :: B) st H ce sl := go_iincG (A := [s0, s1, s2, s3, s4, s5, s6, s7, s8, s9, s10, s11, s12, s13, s14]) rfl hd hv h
theorem go_istore16 {s0 s1 s2 s3 s4 s5 s6 s7 s8 s9 s10 s11 s12 s13 s14 s15 o : Slot} {B : List Slot} {x : Int32} (hd : Ins M pc (.istore 16) 2 pc') (ho : One o) (h : Go Z a0 n0 M R Q pc' (s0 :: s1 :: s2 :: s3 :: s4 :: s5 :: s6 :: s7 :: s8 :: s9 :: s10 :: s11 :: s12 :: s13 :: s14 :: s15 :: .val (.int x) :: B) st H ce sl) : Go Z a0 n0 M R Q pc (s0 :: s1 :: s2 :: s3 :: s4 :: s5 :: s6 :: s7 :: s8 :: s9 :: s10 :: s11 :: s12 :: s13 :: s14 :: s15 :: o :: B) (.int x :: st) H ce sl := go_istoreG (A := [s0, s1, s2, s3, s4, s5, s6, s7, s8, s9, s10, s11, s12, s13, s14, s15]) rfl ho hd h
theorem go_astore16 {s0 s1 s2 s3 s4 s5 s6 s7 s8 s9 s10 s11 s12 s13 s14 s15 o : Slot} {B : List Slot} {x : Addr} (hd : Ins M pc (.astore 16) 2 pc') (ho : One o) (h : Go Z a0 n0 M R Q pc' (s0 :: s1 :: s2 :: s3 :: s4 :: s5 :: s6 :: s7 :: s8 :: s9 :: s10 :: s11 :: s12 :: s13 :: s14 :: s15 :: .val (.ref x) :: B) st H ce sl) : Go Z a0 n0 M R Q pc (s0 :: s1 :: s2 :: s3 :: s4 :: s5 :: s6 :: s7 :: s8 :: s9 :: s10 :: s11 :: s12 :: s13 :: s14 :: s15 :: o :: B) (.ref x :: st) H ce sl := go_astoreG (A := [s0, s1, s2, s3, s4, s5, s6, s7, s8, s9, s10, s11, s12, s13, s14, s15]) rfl ho hd h
theorem go_lstore16 {s0 s1 s2 s3 s4 s5 s6 s7 s8 s9 s10 s11 s12 s13 s14 s15 o o' : Slot} {B : List Slot} {x : Int64} (hd : Ins M pc (.lstore 16) 2 pc') (ho : (One o ∧ One o') ∨ ∃ y : Int64, o = .val (.long y) ∧ o' = .second) (h : Go Z a0 n0 M R Q pc' (s0 :: s1 :: s2 :: s3 :: s4 :: s5 :: s6 :: s7 :: s8 :: s9 :: s10 :: s11 :: s12 :: s13 :: s14 :: s15 :: .val (.long x) :: .second :: B) st H ce sl) : Go Z a0 n0 M R Q pc (s0 :: s1 :: s2 :: s3 :: s4 :: s5 :: s6 :: s7 :: s8 :: s9 :: s10 :: s11 :: s12 :: s13 :: s14 :: s15 :: o :: o' :: B) (.long x :: st) H ce sl := go_lstoreG (A := [s0, s1, s2, s3, s4, s5, s6, s7, s8, s9, s10, s11, s12, s13, s14, s15]) rfl ho hd h
theorem go_iinc16 {s0 s1 s2 s3 s4 s5 s6 s7 s8 s9 s10 s11 s12 s13 s14 s15 : Slot} {B : List Slot} {cst : Int} {x v : Int32} (hd : Ins M pc (.iinc 16 cst) 3 pc') (hv : x + Int32.ofInt cst = v) (h : Go Z a0 n0 M R Q pc' (s0 :: s1 :: s2 :: s3 :: s4 :: s5 :: s6 :: s7 :: s8 :: s9 :: s10 :: s11 :: s12 :: s13 :: s14 :: s15 :: .val (.int v) :: B) st H ce sl) : Go Z a0 n0 M R Q pc (s0 :: s1 :: s2 :: s3 :: s4 :: s5 :: s6 :: s7 :: s8 :: s9 :: s10 :: s11 :: s12 :: s13 :: s14 :: s15 :: .val (.int x) :: B) st H ce sl := go_iincG (A := [s0, s1, s2, s3, s4, s5, s6, s7, s8, s9, s10, s11, s12, s13, s14, s15]) rfl hd hv h
theorem go_istore17 {s0 s1 s2 s3 s4 s5 s6 s7 s8 s9 s10 s11 s12 s13 s14 s15 s16 o : Slot} {B : List Slot} {x : Int32} (hd : Ins M pc (.istore 17) 2 pc') (ho : One o) (h : Go Z a0 n0 M R Q pc' (s0 :: s1 :: s2 :: s3 :: s4 :: s5 :: s6 :: s7 :: s8 :: s9 :: s10 :: s11 :: s12 :: s13 :: s14 :: s15 :: s16 :: .val (.int x) :: B) st H ce sl) : Go Z a0 n0 M R Q pc (s0 :: s1 :: s2 :: s3 :: s4 :: s5 :: s6 :: s7 :: s8 :: s9 :: s10 :: s11 :: s12 :: s13 :: s14 :: s15 :: s16 :: o :: B) (.int x :: st) H ce sl := go_istoreG (A := [s0, s1, s2, s3, s4, s5, s6, s7, s8, s9, s10, s11, s12, s13, s14, s15, s16]) rfl ho hd h
theorem go_astore17 {s0 s1 s2 s3 s4 s5 s6 s7 s8 s9 s10 s11 s12 s13 s14 s15 s16 o : Slot} {B : List Slot} {x : Addr} (hd : Ins M pc (.astore 17) 2 pc') (ho : One o) (h : Go Z a0 n0 M R Q pc' (s0 :: s1 :: s2 :: s3 :: s4 :: s5 :: s6 :: s7 :: s8 :: s9 :: s10 :: s11 :: s12 :: s13 :: s14 :: s15 :: s16 :: .val (.ref x) :: B) st H ce sl) : Go Z a0 n0 M R Q pc (s0 :: s1 :: s2 :: s3 :: s4 :: s5 :: s6 :: s7 :: s8 :: s9 :: s10 :: s11 :: s12 :: s13 :: s14 :: s15 :: s16 :: o :: B) (.ref x :: st) H ce sl := go_astoreG (A := [s0, s1, s2, s3, s4, s5, s6, s7, s8, s9, s10, s11, s12, s13, s14, s15, s16]) rfl ho hd h
theorem go_lstore17 {s0 s1 s2 s3 s4 s5 s6 s7 s8 s9 s10 s11 s12 s13 s14 s15 s16 o o' : Slot} {B : List Slot} {x : Int64} (hd : Ins M pc (.lstore 17) 2 pc') (ho : (One o ∧ One o') ∨ ∃ y : Int64, o = .val (.long y) ∧ o' = .second) (h : Go Z a0 n0 M R Q pc' (s0 :: s1 :: s2 :: s3 :: s4 :: s5 :: s6 :: s7 :: s8 :: s9 :: s10 :: s11 :: s12 :: s13 :: s14 :: s15 :: s16 :: .val (.long x) :: .second :: B) st H ce sl) : Go Z a0 n0 M R Q pc (s0 :: s1 :: s2 :: s3 :: s4 :: s5 :: s6 :: s7 :: s8 :: s9 :: s10 :: s11 :: s12 :: s13 :: s14 :: s15 :: s16 :: o :: o' :: B) (.long x :: st) H ce sl := go_lstoreG (A := [s0, s1, s2, s3, s4, s5, s6, s7, s8, s9, s10, s11, s12, s13, s14, s15, s16]) rfl ho hd h
theorem go_iinc17 {s0 s1 s2 s3 s4 s5 s6 s7 s8 s9 s10 s11 s12 s13 s14 s15 s16 : Slot} {B : List Slot} {cst : Int} {x v : Int32} (hd : Ins M pc (.iinc 17 cst) 3 pc') (hv : x + Int32.ofInt cst = v) (h : Go Z a0 n0 M R Q pc' (s0 :: s1 :: s2 :: s3 :: s4 :: s5 :: s6 :: s7 :: s8 :: s9 :: s10 :: s11 :: s12 :: s13 :: s14 :: s15 :: s16 :: .val (.int v) :: B) st H ce sl) : Go Z a0 n0 M R Q pc (s0 :: s1 :: s2 :: s3 :: s4 :: s5 :: s6 :: s7 :: s8 :: s9 :: s10 :: s11 :: s12 :: s13 :: s14 :: s15 :: s16 :: .val (.int x) :: B) st H ce sl := go_iincG (A := [s0, s1, s2, s3, s4, s5, s6, s7, s8, s9, s10, s11, s12, s13, s14, s15, s16]) rfl hd hv h
theorem go_istore18 {s0 s1 s2 s3 s4 s5 s6 s7 s8 s9 s10 s11 s12 s13 s14 s15 s16 s17 o : Slot} {B : List Slot} {x : Int32} (hd : Ins M pc (.istore 18) 2 pc') (ho : One o) (h : Go Z a0 n0 M R Q pc' (s0 :: s1 :: s2 :: s3 :: s4 :: s5 :: s6 :: s7 :: s8 :: s9 :: s10 :: s11 :: s12 :: s13 :: s14 :: s15 :: s16 :: s17 :: .val (.int x) :: B) st H ce sl) : Go Z a0 n0 M R Q pc (s0 :: s1 :: s2 :: s3 :: s4 :: s5 :: s6 :: s7 :: s8 :: s9 :: s10 :: s11 :: s12 :: s13 :: s14 :: s15 :: s16 :: s17 :: o :: B) (.int x :: st) H ce sl := go_istoreG (A := [s0, s1, s2, s3, s4, s5, s6, s7, s8, s9, s10, s11, s12, s13, s14, s15, s16, s17]) rfl ho hd h
theorem go_astore18 {s0 s1 s2 s3 s4 s5 s6 s7 s8 s9 s10 s11 s12 s13 s14 s15 s16 s17 o : Slot} {B : List Slot} {x : Addr} (hd : Ins M pc (.astore 18) 2 pc') (ho : One o) (h : Go Z a0 n0 M R Q pc' (s0 :: s1 :: s2 :: s3 :: s4 :: s5 :: s6 :: s7 :: s8 :: s9 :: s10 :: s11 :: s12 :: s13 :: s14 :: s15 :: s16 :: s17 :: .val (.ref x) :: B) st H ce sl) : Go Z a0 n0 M R Q pc (s0 :: s1 :: s2 :: s3 :: s4 :: s5 :: s6 :: s7 :: s8 :: s9 :: s10 :: s11 :: s12 :: s13 :: s14 :: s15 :: s16 :: s17 :: o :: B) (.ref x :: st) H ce sl := go_astoreG (A := [s0, s1, s2, s3, s4, s5, s6, s7, s8, s9, s10, s11, s12, s13, s14, s15, s16, s17]) rfl ho hd h
theorem go_lstore18 {s0 s1 s2 s3 s4 s5 s6 s7 s8 s9 s10 s11 s12 s13 s14 s15 s16 s17 o o' : Slot} {B : List Slot} {x : Int64} (hd : Ins M pc (.lstore 18) 2 pc') (ho : (One o ∧ One o') ∨ ∃ y : Int64, o = .val (.long y) ∧ o' = .second) (h : Go Z a0 n0 M R Q pc' (s0 :: s1 :: s2 :: s3 :: s4 :: s5 :: s6 :: s7 :: s8 :: s9 :: s10 :: s11 :: s12 :: s13 :: s14 :: s15 :: s16 :: s17 :: .val (.long x) :: .second :: B) st H ce sl) : Go Z a0 n0 M R Q pc (s0 :: s1 :: s2 :: s3 :: s4 :: s5 :: s6 :: s7 :: s8 :: s9 :: s10 :: s11 :: s12 :: s13 :: s14 :: s15 :: s16 :: s17 :: o :: o' :: B) (.long x :: st) H ce sl := go_lstoreG (A := [s0, s1, s2, s3, s4, s5, s6, s7, s8, s9, s10, s11, s12, s13, s14, s15, s16, s17]) rfl ho hd h
theorem go_iinc18 {s0 s1 s2 s3 s4 s5 s6 s7 s8 s9 s10 s11 s12 s13 s14 s15 s16 s17 : Slot} {B : List Slot} {cst : Int} {x v : Int32} (hd : Ins M pc (.iinc 18 cst) 3 pc') (hv : x + Int32.ofInt cst = v) (h : Go Z a0 n0 M R Q pc' (s0 :: s1 :: s2 :: s3 :: s4 :: s5 :: s6 :: s7 :: s8 :: s9 :: s10 :: s11 :: s12 :: s13 :: s14 :: s15 :: s16 :: s17 :: .val (.int v) :: B) st H ce sl) : Go Z a0 n0 M R Q pc (s0 :: s1 :: s2 :: s3 :: s4 :: s5 :: s6 :: s7 :: s8 :: s9 :: s10 :: s11 :: s12 :: s13 :: s14 :: s15 :: s16 :: s17 :: .val (.int x) :: B) st H ce sl := go_iincG (A := [s0, s1, s2, s3, s4, s5, s6, s7, s8, s9, s10, s11, s12, s13, s14, s15, s16, s17]) rfl hd hv h
theorem go_istore19 {s0 s1 s2 s3 s4 s5 s6 s7 s8 s9 s10 s11 s12 s13 s14 s15 s16 s17 s18 o : Slot} {B : List Slot} {x : Int32} (hd : Ins M pc (.istore 19) 2 pc') (ho : One o) (h : Go Z a0 n0 M R Q pc' (s0 :: s1 :: s2 :: s3 :: s4 :: s5 :: s6 :: s7 :: s8 :: s9 :: s10 :: s11 :: s12 :: s13 :: s14 :: s15 :: s16 :: s17 :: s18 :: .val (.int x) :: B) st H ce sl) : Go Z a0 n0 M R Q pc (s0 :: s1 :: s2 :: s3 :: s4 :: s5 :: s6 :: s7 :: s8 :: s9 :: s10 :: s11 :: s12 :: s13 :: s14 :: s15 :: s16 :: s17 :: s18 :: o :: B) (.int x :: st) H ce sl := go_istoreG (A := [s0, s1, s2, s3, s4, s5, s6, s7, s8, s9, s10, s11, s12, s13, s14, s15, s16, s17, s18]) rfl ho hd h
theorem go_astore19 {s0 s1 s2 s3 s4 s5 s6 s7 s8 s9 s10 s11 s12 s13 s14 s15 s16 s17 s18 o : Slot} {B : List Slot} {x : Addr} (hd : Ins M pc (.astore 19) 2 pc') (ho : One o) (h : Go Z a0 n0 M R Q pc' (s0 :: s1 :: s2 :: s3 :: s4 :: s5 :: s6 :: s7 :: s8 :: s9 :: s10 :: s11 :: s12 :: s13 :: s14 :: s15 :: s16 :: s17 :: s18 :: .val (.ref x) :: B) st H ce sl) : Go Z a0 n0 M R Q pc (s0 :: s1 :: s2 :: s3 :: s4 :: s5 :: s6 :: s7 :: s8 :: s9 :: s10 :: s11 :: s12 :: s13 :: s14 :: s15 :: s16 :: s17 :: s18 :: o :: B) (.ref x :: st) H ce sl := go_astoreG (A := [s0, s1, s2, s3, s4, s5, s6, s7, s8, s9, s10, s11, s12, s13, s14, s15, s16, s17, s18]) rfl ho hd h
theorem go_lstore19 {s0 s1 s2 s3 s4 s5 s6 s7 s8 s9 s10 s11 s12 s13 s14 s15 s16 s17 s18 o o' : Slot} {B : List Slot} {x : Int64} (hd : Ins M pc (.lstore 19) 2 pc') (ho : (One o ∧ One o') ∨ ∃ y : Int64, o = .val (.long y) ∧ o' = .second) (h : Go Z a0 n0 M R Q pc' (s0 :: s1 :: s2 :: s3 :: s4 :: s5 :: s6 :: s7 :: s8 :: s9 :: s10 :: s11 :: s12 :: s13 :: s14 :: s15 :: s16 :: s17 :: s18 :: .val (.long x) :: .second :: B) st H ce sl) : Go Z a0 n0 M R Q pc (s0 :: s1 :: s2 :: s3 :: s4 :: s5 :: s6 :: s7 :: s8 :: s9 :: s10 :: s11 :: s12 :: s13 :: s14 :: s15 :: s16 :: s17 :: s18 :: o :: o' :: B) (.long x :: st) H ce sl := go_lstoreG (A := [s0, s1, s2, s3, s4, s5, s6, s7, s8, s9, s10, s11, s12, s13, s14, s15, s16, s17, s18]) rfl ho hd h
theorem go_iinc19 {s0 s1 s2 s3 s4 s5 s6 s7 s8 s9 s10 s11 s12 s13 s14 s15 s16 s17 s18 : Slot} {B : List Slot} {cst : Int} {x v : Int32} (hd : Ins M pc (.iinc 19 cst) 3 pc') (hv : x + Int32.ofInt cst = v) (h : Go Z a0 n0 M R Q pc' (s0 :: s1 :: s2 :: s3 :: s4 :: s5 :: s6 :: s7 :: s8 :: s9 :: s10 :: s11 :: s12 :: s13 :: s14 :: s15 :: s16 :: s17 :: s18 :: .val (.int v) :: B) st H ce sl) : Go Z a0 n0 M R Q pc (s0 :: s1 :: s2 :: s3 :: s4 :: s5 :: s6 :: s7 :: s8 :: s9 :: s10 :: s11 :: s12 :: s13 :: s14 :: s15 :: s16 :: s17 :: s18 :: .val (.int x) :: B) st H ce sl := go_iincG (A := [s0, s1, s2, s3, s4, s5, s6, s7, s8, s9, s10, s11, s12, s13, s14, s15, s16, s17, s18]) rfl hd hv h
theorem go_istore20 {s0 s1 s2 s3 s4 s5 s6 s7 s8 s9 s10 s11 s12 s13 s14 s15 s16 s17 s18 s19 o : Slot} {B : List Slot} {x : Int32} (hd : Ins M pc (.istore 20) 2 pc') (ho : One o) (h : Go Z a0 n0 M R Q pc' (s0 :: s1 :: s2 :: s3 :: s4 :: s5 :: s6 :: s7 :: s8 :: s9 :: s10 :: s11 :: s12 :: s13 :: s14 :: s15 :: s16 :: s17 :: s18 :: s19 :: .val (.int x) :: B) st H ce sl) : Go Z a0 n0 M R Q pc (s0 :: s1 :: s2 :: s3 :: s4 :: s5 :: s6 :: s7 :: s8 :: s9 :: s10 :: s11 :: s12 :: s13 :: s14 :: s15 :: s16 :: s17 :: s18 :: s19 :: o :: B) (.int x :: st) H ce sl := go_istoreG (A := [s0, s1, s2, s3, s4, s5, s6, s7, s8, s9, s10, s11, s12, s13, s14, s15, s16, s17, s18, s19]) rfl ho hd h
theorem go_astore20 {s0 s1 s2 s3 s4 s5 s6 s7 s8 s9 s10 s11 s12 s13 s14 s15 s16 s17 s18 s19 o : Slot} {B : List Slot} {x : Addr} (hd : Ins M pc (.astore 20) 2 pc') (ho : One o) (h : Go Z a0 n0 M R Q pc' (s0 :: s1 :: s2 :: s3 :: s4 :: s5 :: s6 :: s7 :: s8 :: s9 :: s10 :: s11 :: s12 :: s13 :: s14 :: s15 :: s16 :: s17 :: s18 :: s19 :: .val (.ref x) :: B) st H ce sl) : Go Z a0 n0 M R Q pc (s0 :: s1 :: s2 :: s3 :: s4 :: s5 :: s6 :: s7 :: s8 :: s9 :: s10 :: s11 :: s12 :: s13 :: s14 :: s15 :: s16 :: s17 :: s18 :: s19 :: o :: B) (.ref x :: st) H ce sl := go_astoreG (A := [s0, s1, s2, s3, s4, s5, s6, s7, s8, s9, s10, s11, s12, s13, s14, s15, s16, s17, s18, s19]) rfl ho hd h
theorem go_lstore20 {s0 s1 s2 s3 s4 s5 s6 s7 s8 s9 s10 s11 s12 s13 s14 s15 s16 s17 s18 s19 o o' : Slot} {B : List Slot} {x : Int64} (hd : Ins M pc (.lstore 20) 2 pc') (ho : (One o ∧ One o') ∨ ∃ y : Int64, o = .val (.long y) ∧ o' = .second) (h : Go Z a0 n0 M R Q pc' (s0 :: s1 :: s2 :: s3 :: s4 :: s5 :: s6 :: s7 :: s8 :: s9 :: s10 :: s11 :: s12 :: s13 :: s14 :: s15 :: s16 :: s17 :: s18 :: s19 :: .val (.long x) :: .second :: B) st H ce sl) : Go Z a0 n0 M R Q pc (s0 :: s1 :: s2 :: s3 :: s4 :: s5 :: s6 :: s7 :: s8 :: s9 :: s10 :: s11 :: s12 :: s13 :: s14 :: s15 :: s16 :: s17 :: s18 :: s19 :: o :: o' :: B) (.long x :: st) H ce sl := go_lstoreG (A := [s0, s1, s2, s3, s4, s5, s6, s7, s8, s9, s10, s11, s12, s13, s14, s15, s16, s17, s18, s19]) rfl ho hd h
theorem go_iinc20 {s0 s1 s2 s3 s4 s5 s6 s7 s8 s9 s10 s11 s12 s13 s14 s15 s16 s17 s18 s19 : Slot} {B : List Slot} {cst : Int} {x v : Int32} (hd : Ins M pc (.iinc 20 cst) 3 pc') (hv : x + Int32.ofInt cst = v) (h : Go Z a0 n0 M R Q pc' (s0 :: s1 :: s2 :: s3 :: s4 :: s5 :: s6 :: s7 :: s8 :: s9 :: s10 :: s11 :: s12 :: s13 :: s14 :: s15 :: s16 :: s17 :: s18 :: s19 :: .val (.int v) :: B) st H ce sl) : Go Z a0 n0 M R Q pc (s0 :: s1 :: s2 :: s3 :: s4 :: s5 :: s6 :: s7 :: s8 :: s9 :: s10 :: s11 :: s12 :: s13 :: s14 :: s15 :: s16 :: s17 :: s18 :: s19 :: .val (.int x) :: B) st H ce sl := go_iincG (A := [s0, s1, s2, s3, s4, s5, s6, s7, s8, s9, s10, s11, s12, s13, s14, s15, s16, s17, s18, s19]) rfl hd hv h
end Rules
section Heap
variable {Z : State} {a0 : Array Value} {n0 : Nat} {M : GM} {R : Room} {Q : Option Value → List GObj → Prop} {pc pc' : Nat} {L : List Slot} {st : List Value} {H : List GObj} {ce sl : Nat}
theorem idx_of {j : Int32} {i : Nat} (h : j.toInt = (i : Int)) : ¬ j < 0 ∧ j.toNatClampNeg = i := by
  constructor
  · rw [Int32.lt_iff_toInt_lt]; simp only [Int32.reduceToInt]; omega
  · simp only [Int32.toNatClampNeg]; omega
theorem idx_in' {j : Int32} {i : Nat} {c : Cell} {vs : List Value} {v : Value} (h : j.toInt = (i : Int)) (hc : c.slots = vs.toArray) (hv : vs[i]? = some v) : ¬ (j < 0 ∨ c.slots.size ≤ j.toNatClampNeg) ∧ c.slots[j.toNatClampNeg]? = some v := by
  obtain ⟨h1, h2⟩ := idx_of h
  have := (List.getElem?_eq_some_iff.mp hv).1
  refine ⟨?_, by rw [h2, hc]; simpa using hv⟩
  rintro (q | q)
  · exact h1 q
  · rw [hc, h2] at q; simp at q; omega
theorem nodup_ne {K : GLay} (h : (K.2.map fun q => q.2.1).Nodup) {i j : Nat} {q q' : String × String × String × FieldType} (hi : K.2[i]? = some q) (hj : K.2[j]? = some q') (ne : i ≠ j) : q.2.1 ≠ q'.2.1 := fun e => by
  obtain ⟨h1, e1⟩ := List.getElem?_eq_some_iff.mp hi
  obtain ⟨h2, e2⟩ := List.getElem?_eq_some_iff.mp hj
  refine ne ((List.getElem_inj (xs := K.2.map fun q => q.2.1) (h₀ := by simpa using h1) (h₁ := by simpa using h2) h).mp ?_)
  simpa [e1, e2] using e
theorem size_one {p : Program} {l : Launch} {e : Env} {s : State} {m : MethodId} {args : Array Value} {below : List Frame} {meth : Method} {c : Code} {T T' : State} {locs : List Loc} {h' : Heap} {sl' : Nat} (X' : Stand p l e R s m args below meth c T' locs (ce + 1) sl') (e' : T'.heap = h') (S : Sat Z a0 n0 T.heap H) (E : s.heap.size + ce = n0 + H.length) {cell : Cell} (hc : h'[T.heap.size]? = some cell) : h'.size = T.heap.size + 1 := by
  have h1 := X'.heapSize
  have h2 := (Array.getElem?_eq_some_iff.mp hc).1
  have h3 := S.2.2.1
  rw [e'] at h1
  omega
theorem go_newarray {aty : ArrayType} {ty : FieldType} {n : Int32} {vs : List Value} (cap : Nat) (hd : Ins M pc (.newarray aty) 2 pc') (hty : newarray.typeOf aty = ty) (w : (Jvm.Cond.arrayClass ty).before a0 Z = true) (hn : ¬ n < 0) (hvs : List.replicate n.toNatClampNeg (defaultValue ty) = vs) (hcap : n.toNatClampNeg ≤ cap) (hbb : cap * 8 ≤ 536870912) {k : Nat} (hk : H.length = k) (hc : ce + 1 ≤ R.cells) (hs : sl + cap ≤ R.slots)
    (h : Go Z a0 n0 M R Q pc' L (.ref (n0 + k) :: st) (H ++ [.inr (ty, vs)]) (ce + 1) (sl + cap)) : Go Z a0 n0 M R Q pc L (.int n :: st) H ce sl := by
  obtain ⟨hd, rfl⟩ := hd
  subst hk hty hvs
  intro p l e s m args below meth c T locs X C S E F
  obtain ⟨hx, hZ, hby, hml, hret, hlk, hown, hnm⟩ := id C
  obtain ⟨T', h', cA, X', e', EX, A, EA, st'⟩ := newPE X hx hZ w rfl (g := mkF m pc L.toArray (.int n :: st)) rfl (hb hby hd) rfl hn hcap hbb hc hs rfl
  have hsz := size_one X' e' S E A.1
  have OB : Ob Z a0 h' T.heap.size (.inr (newarray.typeOf aty, List.replicate n.toNatClampNeg (defaultValue (newarray.typeOf aty)))) := by
    refine ⟨_, A, by simp [newA], fun v hv => ?_, EA, fun C hC => ?_⟩
    · obtain rfl := (List.mem_replicate.mp hv).2
      cases aty <;> rfl
    · cases aty <;> cases hC
  have S' := S.push EX hsz OB
  rw [← e'] at S'
  refine (h p l e s m args below meth c T' _ X' C S' (by simp; omega) F).back ?_
  rw [← S.2.2.1]; exact st'
theorem go_anewarray {idx : Nat} {Cn : String} {n : Int32} {vs : List Value} (cap : Nat) (hd : Ins M pc (.anewarray idx) 3 pc') (w1 : (Jvm.Cond.classLink M.1.cls idx Cn).before a0 Z = true) (w : (Jvm.Cond.arrayOver (.object Cn)).before a0 Z = true) (hn : ¬ n < 0) (hvs : List.replicate n.toNatClampNeg Value.null = vs) (hcap : n.toNatClampNeg ≤ cap) (hbb : cap * 8 ≤ 536870912) {k : Nat} (hk : H.length = k) (hc : ce + 1 ≤ R.cells) (hs : sl + cap ≤ R.slots)
    (h : Go Z a0 n0 M R Q pc' L (.ref (n0 + k) :: st) (H ++ [.inr (.object Cn, vs)]) (ce + 1) (sl + cap)) : Go Z a0 n0 M R Q pc L (.int n :: st) H ce sl := by
  obtain ⟨hd, rfl⟩ := hd
  subst hk hvs
  intro p l e s m args below meth c T locs X C S E F
  obtain ⟨hx, hZ, hby, hml, hret, hlk, hown, hnm⟩ := id C
  obtain ⟨T', h', cA, X', e', EX, A, EA, OV, st'⟩ := newRE X hx hZ hown w1 w rfl (g := mkF m pc L.toArray (.int n :: st)) rfl (hb hby hd) rfl hn hcap hbb hc hs rfl
  have hsz := size_one X' e' S E A.1
  have OB : Ob Z a0 h' T.heap.size (.inr (.object Cn, List.replicate n.toNatClampNeg Value.null)) := by
    refine ⟨_, A, by simp [newA, defaultValue], fun v hv => ?_, EA, fun C hC => ?_⟩
    · obtain rfl := (List.mem_replicate.mp hv).2
      rfl
    · cases hC; exact OV
  have S' := S.push EX hsz OB
  rw [← e'] at S'
  refine (h p l e s m args below meth c T' _ X' C S' (by simp; omega) F).back ?_
  rw [← S.2.2.1]; exact st'
theorem go_arraylength {k : Nat} {ty : FieldType} {vs : List Value} {n : Int32} (hd : Ins M pc .arraylength 1 pc') (hH : H[k]? = some (.inr (ty, vs))) (hn : vs.length.toInt32 = n) (h : Go Z a0 n0 M R Q pc' L (.int n :: st) H ce sl) : Go Z a0 n0 M R Q pc L (.ref (n0 + k) :: st) H ce sl := by
  obtain ⟨hd, rfl⟩ := hd
  intro p l e s m args below meth c T locs X C S E F
  obtain ⟨hx, hZ, hby, hml, hret, hlk, hown, hnm⟩ := id C
  obtain ⟨cl, A, hs, -⟩ := S.2.2.2 k _ hH
  have hlen : cl.slots.size.toInt32 = n := by rw [hs]; simpa using hn
  refine (h p l e s m args below meth c T _ X C S E F).back fun t k' => ?_
  exact X.arraylength hx A.1 (State.isArrayOf_alike hZ.alike A.2.1) (g := mkF m pc L.toArray (.ref (n0 + k) :: st)) rfl rfl (hb hby hd) t (by rw [hlen]; exact k')
theorem go_iaload {k i : Nat} {j x : Int32} {vs : List Value} (hd : Ins M pc .iaload 1 pc') (hH : H[k]? = some (.inr (.int, vs))) (hj : j.toInt = (i : Int)) (hv : vs[i]? = some (.int x)) (h : Go Z a0 n0 M R Q pc' L (.int x :: st) H ce sl) : Go Z a0 n0 M R Q pc L (.int j :: .ref (n0 + k) :: st) H ce sl := by
  obtain ⟨hd, rfl⟩ := hd
  intro p l e s m args below meth c T locs X C S E F
  obtain ⟨hx, hZ, hby, hml, hret, hlk, hown, hnm⟩ := id C
  obtain ⟨cl, A, hs, -⟩ := S.2.2.2 k _ hH
  obtain ⟨g1, g2⟩ := idx_in' hj hs hv
  refine (h p l e s m args below meth c T _ X C S E F).back fun t k' => ?_
  exact X.iaload hx A.1 (State.isArrayOf_alike hZ.alike A.2.1) A.2.2 g1 g2 (g := mkF m pc L.toArray (.int j :: .ref (n0 + k) :: st)) rfl rfl (hb hby hd) t k'
theorem go_laload {k i : Nat} {j : Int32} {x : Int64} {vs : List Value} (hd : Ins M pc .laload 1 pc') (hH : H[k]? = some (.inr (.long, vs))) (hj : j.toInt = (i : Int)) (hv : vs[i]? = some (.long x)) (h : Go Z a0 n0 M R Q pc' L (.long x :: st) H ce sl) : Go Z a0 n0 M R Q pc L (.int j :: .ref (n0 + k) :: st) H ce sl := by
  obtain ⟨hd, rfl⟩ := hd
  intro p l e s m args below meth c T locs X C S E F
  obtain ⟨hx, hZ, hby, hml, hret, hlk, hown, hnm⟩ := id C
  obtain ⟨cl, A, hs, -⟩ := S.2.2.2 k _ hH
  obtain ⟨g1, g2⟩ := idx_in' hj hs hv
  refine (h p l e s m args below meth c T _ X C S E F).back fun t k' => ?_
  exact X.laload hx A.1 (State.isArrayOf_alike hZ.alike A.2.1) A.2.2 g1 g2 (g := mkF m pc L.toArray (.int j :: .ref (n0 + k) :: st)) rfl rfl (hb hby hd) t k'
theorem go_baload {k i : Nat} {j x : Int32} {vs : List Value} (hd : Ins M pc .baload 1 pc') (hH : H[k]? = some (.inr (.byte, vs))) (hj : j.toInt = (i : Int)) (hv : vs[i]? = some (.int x)) (h : Go Z a0 n0 M R Q pc' L (.int x :: st) H ce sl) : Go Z a0 n0 M R Q pc L (.int j :: .ref (n0 + k) :: st) H ce sl := by
  obtain ⟨hd, rfl⟩ := hd
  intro p l e s m args below meth c T locs X C S E F
  obtain ⟨hx, hZ, hby, hml, hret, hlk, hown, hnm⟩ := id C
  obtain ⟨cl, A, hs, -⟩ := S.2.2.2 k _ hH
  obtain ⟨g1, g2⟩ := idx_in' hj hs hv
  refine (h p l e s m args below meth c T _ X C S E F).back fun t k' => ?_
  exact X.baloadBytes hx A.1 (State.isArrayOf_alike hZ.alike A.2.1) A.2.2 g1 g2 (g := mkF m pc L.toArray (.int j :: .ref (n0 + k) :: st)) rfl rfl (hb hby hd) t k'
theorem go_aaload {k i : Nat} {j : Int32} {x : Value} {ty : FieldType} {vs : List Value} (hd : Ins M pc .aaload 1 pc') (hH : H[k]? = some (.inr (ty, vs))) (hty : ty.isReference = true) (hj : j.toInt = (i : Int)) (hv : vs[i]? = some x) (h : Go Z a0 n0 M R Q pc' L (x :: st) H ce sl) : Go Z a0 n0 M R Q pc L (.int j :: .ref (n0 + k) :: st) H ce sl := by
  obtain ⟨hd, rfl⟩ := hd
  intro p l e s m args below meth c T locs X C S E F
  obtain ⟨hx, hZ, hby, hml, hret, hlk, hown, hnm⟩ := id C
  obtain ⟨cl, A, hs, -⟩ := S.2.2.2 k _ hH
  obtain ⟨g1, g2⟩ := idx_in' hj hs hv
  refine (h p l e s m args below meth c T _ X C S E F).back fun t k' => ?_
  exact X.aaload hx A.1 (State.isArrayOf_alike hZ.alike A.2.1) hty A.2.2 g1 g2 (g := mkF m pc L.toArray (.int j :: .ref (n0 + k) :: st)) rfl rfl (hb hby hd) t k'
theorem ob_set {h h' : Heap} {a : Addr} {c : Cell} {ty : FieldType} {vs : List Value} {v : Value} {i : Nat} (A : Arr Z h a c ty) (hs : c.slots = vs.toArray) (hf : ∀ v ∈ vs, fits ty v = true) (EA : Exa Z h a ("[" ++ ty.toString)) (OV : ∀ C, ty = .object C → Ovr Z c.cls C) (W : Wr h h' a i v) (hv : fits ty v = true) : Ob Z a0 h' a (.inr (ty, vs.set i v)) :=
  ⟨c.setSlot i v, A.same W, by simp [Cell.setSlot, hs], fun u hu => (List.mem_or_eq_of_mem_set hu).elim (hf u) (fun q => q ▸ hv), EA.wr W, OV⟩
theorem go_iastore {k i : Nat} {j x : Int32} {vs : List Value} (hd : Ins M pc .iastore 1 pc') (hH : H[k]? = some (.inr (.int, vs))) (hj : j.toInt = (i : Int)) (hi : (vs[i]?).isSome = true) (h : Go Z a0 n0 M R Q pc' L st (H.set k (.inr (.int, vs.set i (.int x)))) ce sl) : Go Z a0 n0 M R Q pc L (.int x :: .int j :: .ref (n0 + k) :: st) H ce sl := by
  obtain ⟨hd, rfl⟩ := hd
  intro p l e s m args below meth c T locs X C S E F
  obtain ⟨hx, hZ, hby, hml, hret, hlk, hown, hnm⟩ := id C
  obtain ⟨cl, A, hs, hf, EA, OV⟩ := S.2.2.2 k _ hH
  obtain ⟨old, hold⟩ := Option.isSome_iff_exists.mp hi
  obtain ⟨g1, -⟩ := idx_in' hj hs hold
  obtain ⟨T', h', X', e', W, st'⟩ := stI X hx hZ rfl A g1 (x := x) (g := mkF m pc L.toArray (.int x :: .int j :: .ref (n0 + k) :: st)) rfl rfl (hb hby hd)
  rw [(idx_of hj).2] at W
  have S' := S.put W (ob_set (a0 := a0) A hs hf EA OV W rfl)
  rw [← e'] at S'
  exact (h p l e s m args below meth c T' _ X' C S' (by simpa using E) (Fr.snoc X' F (Nat.le_add_right _ _))).back st'
theorem go_lastore {k i : Nat} {j : Int32} {x : Int64} {vs : List Value} (hd : Ins M pc .lastore 1 pc') (hH : H[k]? = some (.inr (.long, vs))) (hj : j.toInt = (i : Int)) (hi : (vs[i]?).isSome = true) (h : Go Z a0 n0 M R Q pc' L st (H.set k (.inr (.long, vs.set i (.long x)))) ce sl) : Go Z a0 n0 M R Q pc L (.long x :: .int j :: .ref (n0 + k) :: st) H ce sl := by
  obtain ⟨hd, rfl⟩ := hd
  intro p l e s m args below meth c T locs X C S E F
  obtain ⟨hx, hZ, hby, hml, hret, hlk, hown, hnm⟩ := id C
  obtain ⟨cl, A, hs, hf, EA, OV⟩ := S.2.2.2 k _ hH
  obtain ⟨old, hold⟩ := Option.isSome_iff_exists.mp hi
  obtain ⟨g1, -⟩ := idx_in' hj hs hold
  obtain ⟨T', h', X', e', W, st'⟩ := stJ X hx hZ rfl A g1 (x := x) (g := mkF m pc L.toArray (.long x :: .int j :: .ref (n0 + k) :: st)) rfl rfl (hb hby hd)
  rw [(idx_of hj).2] at W
  have S' := S.put W (ob_set (a0 := a0) A hs hf EA OV W rfl)
  rw [← e'] at S'
  exact (h p l e s m args below meth c T' _ X' C S' (by simpa using E) (Fr.snoc X' F (Nat.le_add_right _ _))).back st'
theorem go_bastore {k i : Nat} {j x : Int32} {vs : List Value} (hd : Ins M pc .bastore 1 pc') (hH : H[k]? = some (.inr (.byte, vs))) (hj : j.toInt = (i : Int)) (hi : (vs[i]?).isSome = true) (h : Go Z a0 n0 M R Q pc' L st (H.set k (.inr (.byte, vs.set i (.int x.toInt8.toInt32)))) ce sl) : Go Z a0 n0 M R Q pc L (.int x :: .int j :: .ref (n0 + k) :: st) H ce sl := by
  obtain ⟨hd, rfl⟩ := hd
  intro p l e s m args below meth c T locs X C S E F
  obtain ⟨hx, hZ, hby, hml, hret, hlk, hown, hnm⟩ := id C
  obtain ⟨cl, A, hs, hf, EA, OV⟩ := S.2.2.2 k _ hH
  obtain ⟨old, hold⟩ := Option.isSome_iff_exists.mp hi
  obtain ⟨g1, -⟩ := idx_in' hj hs hold
  obtain ⟨T', h', X', e', W, st'⟩ := stB X hx hZ rfl A g1 (x := x) (g := mkF m pc L.toArray (.int x :: .int j :: .ref (n0 + k) :: st)) rfl rfl (hb hby hd)
  rw [(idx_of hj).2] at W
  have S' := S.put W (ob_set (a0 := a0) A hs hf EA OV W (fits_nar_byte x))
  rw [← e'] at S'
  exact (h p l e s m args below meth c T' _ X' C S' (by simpa using E) (Fr.snoc X' F (Nat.le_add_right _ _))).back st'
theorem go_ldc {idx : Nat} {v : Int32} (hd : Ins M pc (.ldc idx) 2 pc') (w : (Jvm.Cond.constant M.1.cls idx v).before a0 Z = true) (h : Go Z a0 n0 M R Q pc' L (.int v :: st) H ce sl) : Go Z a0 n0 M R Q pc L st H ce sl := by
  obtain ⟨hd, rfl⟩ := hd
  intro p l e s m args below meth c T locs X C S E F
  obtain ⟨hx, hZ, hby, hml, hret, hlk, hown, hnm⟩ := id C
  exact (h p l e s m args below meth c T _ X C S E F).back (X.ldcInt hx hown (mvT hZ w) (g := mkF m pc L.toArray st) rfl (hb hby hd))
theorem go_ldc2 {idx : Nat} {v : Int64} (hd : Ins M pc (.ldc2_w idx) 3 pc') (w : (Jvm.Cond.constantLong M.1.cls idx v).before a0 Z = true) (h : Go Z a0 n0 M R Q pc' L (.long v :: st) H ce sl) : Go Z a0 n0 M R Q pc L st H ce sl := by
  obtain ⟨hd, rfl⟩ := hd
  intro p l e s m args below meth c T locs X C S E F
  obtain ⟨hx, hZ, hby, hml, hret, hlk, hown, hnm⟩ := id C
  exact (h p l e s m args below meth c T _ X C S E F).back (X.ldc2Long hx hown (mvT hZ w) (g := mkF m pc L.toArray st) rfl (hb hby hd))
theorem go_getstatic {idx : Nat} {O n d : String} {v : Value} (hd : Ins M pc (.getstatic idx) 3 pc') (w : (Jvm.Cond.fieldLink M.1.cls idx O n d).before a0 Z = true) (hS : Sta Z Z.heap O n d v) (h : Go Z a0 n0 M R Q pc' L (v :: st) H ce sl) : Go Z a0 n0 M R Q pc L st H ce sl := by
  obtain ⟨hd, rfl⟩ := hd
  intro p l e s m args below meth c T locs X C S E F
  obtain ⟨hx, hZ, hby, hml, hret, hlk, hown, hnm⟩ := id C
  obtain ⟨T', X', e', st'⟩ := getS X hx hZ (host := "") hown w Via.refl rfl (hS.ext S.2.1) (g := mkF m pc L.toArray st) rfl (hb hby hd)
  exact (h p l e s m args below meth c T' _ X' C (by rw [e']; exact S) E F).back st'
theorem go_checkcastArr {idx k : Nat} {Kn : String} {ty : FieldType} {vs : List Value} (hd : Ins M pc (.checkcast idx) 3 pc') (w : (Jvm.Cond.classLink M.1.cls idx Kn).before a0 Z = true) (hH : H[k]? = some (.inr (ty, vs))) (hK : "[" ++ ty.toString = Kn) (h : Go Z a0 n0 M R Q pc' L (.ref (n0 + k) :: st) H ce sl) : Go Z a0 n0 M R Q pc L (.ref (n0 + k) :: st) H ce sl := by
  obtain ⟨hd, rfl⟩ := hd
  subst hK
  intro p l e s m args below meth c T locs X C S E F
  obtain ⟨hx, hZ, hby, hml, hret, hlk, hown, hnm⟩ := id C
  obtain ⟨cl, A, hs, hf, EA, OV⟩ := S.2.2.2 k _ hH
  obtain ⟨T', X', e', st'⟩ := castY X hx hZ hown w rfl (Ins.self EA) (g := mkF m pc L.toArray (.ref (n0 + k) :: st)) rfl rfl (hb hby hd)
  exact (h p l e s m args below meth c T' _ X' C (by rw [e']; exact S) E F).back st'
theorem fin_of {p : Program} {l : Launch} {e : Env} {s : State} {m : MethodId} {args : Array Value} {below : List Frame} {meth : Method} {c : Code} {T : State} {locs : List Loc} {v : Option Value} {S0 : State} (X : Stand p l e R s m args below meth c T locs ce sl) (hlk : meth.locks = false) (hv : meth.sig.returnType = none → v = none) (S : Sat Z a0 n0 T.heap H) (F : Fr n0 locs) (hc : ce ≤ R.cells) (hs : sl ≤ R.slots) (hQ : Q v H)
    (st : ∀ fs, (∀ (f : JFrame) (acts : List Action), f.method = m → f.locked = none → f.entered = [] → (doReturn e (T.setTop f) acts v).1 = T.setFrames fs) → Steps p.tables e below S0 (T.setFrames fs)) : End Z a0 n0 R Q p e s below (n0 + H.length) S0 := by
  obtain ⟨fs, hr, hrun, hended, hW, hsame⟩ := X.leave (v := v) hv hlk
  exact ⟨_, _, st fs hr, hrun, hended, Nat.le_of_eq S.2.2.1.symm, v, locs, rfl, ⟨H, hQ, S, F⟩, ReturnedEndW.of_narrow ⟨v, rfl⟩ hW (hsame.mono hc hs)⟩
theorem go_ireturn {x : Int32} {t : FieldType} (hd : Ins M pc .ireturn 1 pc') (hr : M.2.2.2 = some t) (hn : narrow t (.int x) = .int x) (ht : t = .int ∨ t = .boolean ∨ t = .byte ∨ t = .char ∨ t = .short) (hc : ce ≤ R.cells) (hs : sl ≤ R.slots) (hQ : Q (some (.int x)) H) : Go Z a0 n0 M R Q pc L (.int x :: st) H ce sl := by
  obtain ⟨hd, rfl⟩ := hd
  intro p l e s m args below meth c T locs X C S E F
  obtain ⟨hx, hZ, hby, hml, hret, hlk, hown, hnm⟩ := id C
  exact fin_of X hlk (fun q => by rw [hret, hr] at q; cases q) S F hc hs hQ fun fs hl => retOut X hx (hret.trans hr) hn (Or.inl ⟨rfl, ht, x, rfl⟩) (hb hby hd) hl
theorem go_lreturn {x : Int64} (hd : Ins M pc .lreturn 1 pc') (hr : M.2.2.2 = some .long) (hc : ce ≤ R.cells) (hs : sl ≤ R.slots) (hQ : Q (some (.long x)) H) : Go Z a0 n0 M R Q pc L (.long x :: st) H ce sl := by
  obtain ⟨hd, rfl⟩ := hd
  intro p l e s m args below meth c T locs X C S E F
  obtain ⟨hx, hZ, hby, hml, hret, hlk, hown, hnm⟩ := id C
  exact fin_of X hlk (fun q => by rw [hret, hr] at q; cases q) S F hc hs hQ fun fs hl => retOut X hx (hret.trans hr) rfl (Or.inr (Or.inl ⟨rfl, rfl, x, rfl⟩)) (hb hby hd) hl
theorem go_areturn {w : Value} {t : FieldType} (hd : Ins M pc .areturn 1 pc') (hr : M.2.2.2 = some t) (ht : t.isReference = true) (hw : w.isRef = true) (hn : narrow t w = w) (hc : ce ≤ R.cells) (hs : sl ≤ R.slots) (hQ : Q (some w) H) : Go Z a0 n0 M R Q pc L (w :: st) H ce sl := by
  obtain ⟨hd, rfl⟩ := hd
  intro p l e s m args below meth c T locs X C S E F
  obtain ⟨hx, hZ, hby, hml, hret, hlk, hown, hnm⟩ := id C
  exact fin_of X hlk (fun q => by rw [hret, hr] at q; cases q) S F hc hs hQ fun fs hl => retOut X hx (hret.trans hr) hn (Or.inr (Or.inr (Or.inr (Or.inr ⟨rfl, ht, hw⟩)))) (hb hby hd) hl
theorem go_return (hd : Ins M pc .return_ 1 pc') (hr : M.2.2.2 = none) (hc : ce ≤ R.cells) (hs : sl ≤ R.slots) (hQ : Q none H) : Go Z a0 n0 M R Q pc L [] H ce sl := by
  obtain ⟨hd, rfl⟩ := hd
  intro p l e s m args below meth c T locs X C S E F
  obtain ⟨hx, hZ, hby, hml, hret, hlk, hown, hnm⟩ := id C
  exact fin_of X hlk (fun q => rfl) S F hc hs hQ fun fs hl => X.returnOut hx (hret.trans hr) (hb hby hd) hl
end Heap
section More
variable {Z : State} {a0 : Array Value} {n0 : Nat} {M : GM} {R : Room} {Q : Option Value → List GObj → Prop} {pc pc' : Nat} {L : List Slot} {st : List Value} {H : List GObj} {ce sl : Nat}
theorem go_clone {idx k : Nat} {ad : String} {ty : FieldType} {vs : List Value} (cap : Nat) (hd : Ins M pc (.invokevirtual idx) 3 pc') (w1 : (Jvm.Cond.methodLink M.1.cls idx ⟨ad, "clone", "()Ljava/lang/Object;"⟩).before a0 Z = true) (w2 : (Jvm.Cond.sameMethod ad "java/lang/Object" "clone" "()Ljava/lang/Object;").before a0 Z = true) (w3 : (Jvm.Cond.native ⟨"java/lang/Object", "clone", "()Ljava/lang/Object;"⟩).before a0 Z = true)
    (w4 : (Jvm.Cond.instanceMethod ⟨"java/lang/Object", "clone", "()Ljava/lang/Object;"⟩).before a0 Z = true) (w5 : (Jvm.Cond.selects ad ⟨ad, "clone", "()Ljava/lang/Object;"⟩ ⟨"java/lang/Object", "clone", "()Ljava/lang/Object;"⟩).before a0 Z = true) (w6 : (Jvm.Cond.castable ad "java/lang/Cloneable").before a0 Z = true)
    (hH : H[k]? = some (.inr (ty, vs))) (had : "[" ++ ty.toString = ad) (hL : L.length = M.2.2.1) (hf : 1 ≤ R.frames) (hl : (st.map fun v => v.category).sum + 14 ≤ R.locals) (hcap : vs.length ≤ cap) {k' : Nat} (hk : H.length = k') (hc : ce + 1 ≤ R.cells) (hs : sl + cap ≤ R.slots)
    (h : Go Z a0 n0 M R Q pc' L (.ref (n0 + k') :: st) (H ++ [.inr (ty, vs)]) (ce + 1) (sl + cap)) : Go Z a0 n0 M R Q pc L (.ref (n0 + k) :: st) H ce sl := by
  obtain ⟨hd, rfl⟩ := hd
  subst hk had
  intro p l e s m args below meth c T locs X C S E F
  obtain ⟨hx, hZ, hby, hml, hret, hlk, hown, hnm⟩ := id C
  obtain ⟨cl, A, hsl, hfit, EA, OV⟩ := S.2.2.2 k _ hH
  have FC : FitC Z cl := fitC_of A fun i hi v hv => by
    rw [hsl] at hv
    exact hfit v (List.mem_of_getElem? (by simpa using hv))
  obtain ⟨T', h', X', e', EX, A', EA', st'⟩ := cloneA X hx hZ hown w1 w2 w3 w4 w5 w6 rfl A EA FC (g := mkF m pc L.toArray (.ref (n0 + k) :: st)) rfl (by simpa [hml] using hL) rfl (hb hby hd) hf (W := (st.map fun v => v.category).sum) (by simp) hl (cap := cap) (by rw [hsl]; simpa using hcap) hc hs
  have hsz := size_one X' e' S E A'.1
  have S' := S.push EX hsz (show Ob Z a0 h' T.heap.size (.inr (ty, vs)) from ⟨_, A', hsl, hfit, EA', OV⟩)
  rw [← e'] at S'
  refine (h p l e s m args below meth c T' _ X' C S' (by simp; omega) F).back ?_
  rw [← S.2.2.1]; exact st'
theorem go_dconst1 (hd : Ins M pc (.dconst 1) 1 pc') (h : Go Z a0 n0 M R Q pc' L (.double FP.dconst1 :: st) H ce sl) : Go Z a0 n0 M R Q pc L st H ce sl := by
  obtain ⟨hd, rfl⟩ := hd
  refine go_pure (fun p e m below c T t hA hx hy k => ?_) h
  have hd' := hb hy hd
  jvm_step hA [hA.top, hx, hd', dconst.wp_sem]
  exact k
theorem go_dloadN {k : Fin 4} {v : UInt64} (hd : Ins M pc (.dload_n k) 1 pc') (hl : L[k.val]? = some (.val (.double v))) (h : Go Z a0 n0 M R Q pc' L (.double v :: st) H ce sl) : Go Z a0 n0 M R Q pc L st H ce sl := by
  obtain ⟨hd, rfl⟩ := hd
  refine go_pure (fun p e m below c T t hA hx hy k' => ?_) h
  have hd' := hb hy hd
  have hl' : L.toArray[k.val]? = some (.val (.double v)) := by simpa using hl
  jvm_step hA [hA.top, hx, hd', hl']
  exact k'
end More
section CallsW
variable {Z : State} {a0 : Array Value} {n0 : Nat} {M : GM} {R : Room} {Q : Option Value → List GObj → Prop} {pc pc' : Nat} {L : List Slot} {st : List Value} {H : List GObj} {ce sl : Nat}
/-- the contract of a body: from these arguments and these objects it comes back, and what it leaves meets Q; it may load literals -/
def MetW (Z : State) (a0 : Array Value) (n0 : Nat) (M : GM) (ws : List Jvm.Cond) (R : Room) (as : List Value) (H : List GObj) (Q : Option Value → List GObj → Prop) : Prop :=
  ∀ (l : Launch) (h : Heap), Sat Z a0 n0 h H → MetFree l M.1 (head1 (Jvm.Cond.code M.1 M.2.1 M.2.2.1 M.2.2.2 :: ws) R) (fun a U => a = as.toArray ∧ Z.Warmed39 U.vm ∧ U.heap = h) (fun _ _ _ _ _ => True)
    (fun _ U o U' => ∃ v L, o = .returned v ∧ (∃ H', Q v H' ∧ Sat Z a0 n0 U'.heap H' ∧ Fr n0 L) ∧ ReturnedEndW U o U' L R.cells R.slots)
def locsF (as : List Value) : List Slot := as.flatMap fun v => if v.category = 2 then [.val v, .second] else [.val v]
def locsOf (as : List Value) (n : Nat) : List Slot := locsF as ++ List.replicate (n - (locsF as).length) .unset
theorem args_eq (as : List Value) (n : Nat) : argsToLocals as.toArray n = (locsOf as n).toArray := by
  have h : ∀ (as : List Value) (acc : Array Slot), as.foldl (fun acc v => if v.category = 2 then (acc.push (.val v)).push .second else acc.push (.val v)) acc = acc ++ (locsF as).toArray := by
    intro as
    induction as with
    | nil => intro acc; simp [locsF]
    | cons v t ih =>
      intro acc
      rw [List.foldl_cons, ih]
      by_cases c : v.category = 2 <;> simp [locsF, c]
  have h' := h as #[]
  unfold argsToLocals
  simp only [List.foldl_toArray', List.size_toArray]
  rw [h']
  simp [locsOf]
theorem MetW.intro {ws : List Jvm.Cond} {as : List Value} (L : List Slot) (hp : plainFor M.1 = true) (he : locsOf as M.2.2.1 = L) (h : Go Z a0 n0 M R Q 0 L [] H 0 0) : MetW Z a0 n0 M ws R as H Q := by
  intro l h0 S
  refine MetFree.of_bodySF hp hisR ?_
  intro p e s m args below meth c s₁ Bd hml0 hP hK
  obtain ⟨rfl, hZ, hh⟩ := hP
  have X0 : Stand p l e R s m as.toArray below meth c s₁ [] 0 0 := Stand.of_body Bd
  have e0 : s₁.heap = h0 := by rw [← hh, Bd.state]; rfl
  have hown := findClass_of_methodNamed Bd.named
  have hnm := (name_of_methodNamed Bd.named Bd.method).1
  obtain ⟨s₂, o, h1, h2, h3, -, v, L', h4, h5, h6⟩ := h p l e s m _ below meth c s₁ [] X0 ⟨Bd.exec, hZ, Bd.bytes, hml0, Bd.returns, Bd.notSynchronized, hown, hnm⟩ (by rw [e0]; exact S) (by rw [hh]; exact S.2.2.1) (Fr.nil _)
  have ef : entryFrame m as.toArray M.2.2.1 = mkF m 0 L.toArray [] := by simp only [entryFrame, mkF, args_eq, he]
  exact ⟨s₂, o, castTop ef h1, h2, h3, v, L', h4, h5, h6⟩
abbrev Met (Z : State) (a0 : Array Value) (n0 : Nat) (y : GM) (fr lo k j : Nat) (as : List Value) (H : List GObj) (Q : Option Value → List GObj → Prop) : Prop := MetW Z a0 n0 y [] ({ frames := fr, cells := k, slots := j, locals := lo } : Room) as H Q
def pushV : Option Value → List Value → List Value
  | none, r => r
  | some v, r => v :: r
theorem pushV_eq (v : Option Value) (r : List Value) : pushV v r = v.toList ++ r := by cases v <;> rfl
abbrev Eq1 (r : Value) (H1 : List GObj) : Option Value → List GObj → Prop := fun v H' => v = some r ∧ H' = H1
abbrev Eq0 (H1 : List GObj) : Option Value → List GObj → Prop := fun v H' => v = none ∧ H' = H1
theorem retE {r : Value} {H1 : List GObj} {rest : List Value} {k j : Nat} (h1 : H1.length = H.length + k) (h : Go Z a0 n0 M R Q pc' L (r :: rest) H1 (ce + k) (sl + j)) : ∀ v H', Eq1 r H1 v H' → H'.length = H.length + k ∧ Go Z a0 n0 M R Q pc' L (pushV v rest) H' (ce + k) (sl + j) := by
  rintro _ _ ⟨rfl, rfl⟩; exact ⟨h1, h⟩
theorem retV {H1 : List GObj} {rest : List Value} {k j : Nat} (h1 : H1.length = H.length + k) (h : Go Z a0 n0 M R Q pc' L rest H1 (ce + k) (sl + j)) : ∀ v H', Eq0 H1 v H' → H'.length = H.length + k ∧ Go Z a0 n0 M R Q pc' L (pushV v rest) H' (ce + k) (sl + j) := by
  rintro _ _ ⟨rfl, rfl⟩; exact ⟨h1, h⟩
def noHandle (c : String) : Bool := decide (c ≠ "java/lang/invoke/MethodHandle" ∧ c ≠ "java/lang/invoke/VarHandle")
/-- behind a step that may have interned: the end over the re-based start is one over the true start -/
theorem End.since {p : Program} {e : Env} {s : State} {below : List Frame} {S0 : State} {vm1 : Vm} {k1 b : Nat} (hS : s.Since vm1 k1) (hk : k1 ≤ b) (h : End Z a0 n0 R Q p e (s.setVm vm1) below b S0) : End Z a0 n0 R Q p e s below b S0 := by
  obtain ⟨s₂, o, h1, h2, h3, hb, v, L', h4, h5, -, w, bk, sm⟩ := h
  have h6 := hS.trans (vm₂ := s₂.vm) (n₂ := s₂.heap.size) ⟨w, bk⟩ (Nat.le_trans hk hb)
  exact ⟨s₂, o, h1, h2, h3, hb, v, L', h4, h5, ⟨v, h4⟩, h6.1, h6.2, sm.setVm s.vm⟩
theorem Cx.since {p : Program} {s : State} {m : MethodId} {meth : Method} {c : Code} {vm1 : Vm} {k1 : Nat} (C : Cx Z M p s m meth c) (hS : s.Since vm1 k1) : Cx Z M p (s.setVm vm1) m meth c := by
  obtain ⟨hx, hZ, hby, hml, hret, hlk, hown, hnm⟩ := C
  exact ⟨hx, State.Warmed39.trans hZ hS.1, hby, hml, hret, hlk, (hS.1.alike.findClass _ _).trans hown, hnm⟩
/-- the cells that were made, no more -/
theorem exact_cells {p : Program} {l : Launch} {e : Env} {s : State} {m : MethodId} {args : Array Value} {below : List Frame} {meth : Method} {c : Code} {T : State} {locs : List Loc} {k k' : Nat} (X : Stand p l e R s m args below meth c T locs k sl) (h : T.heap.size ≤ s.heap.size + k') : Stand p l e R s m args below meth c T locs k' sl := by
  obtain ⟨x1, x2, x3, x4, x5, x6⟩ := X.same
  exact ⟨X.admits, X.cas, X.clock, X.frames, X.room, X.hears, X.method, X.code, X.here, X.tail, X.warmed, X.limits, X.bytes, x1, x2, h, x4, x5, x6⟩
theorem go_staticV {y : GM} {fr lo k j idx : Nat} {as rest stk : List Value} {ps : List FieldType} {r : Option FieldType} {Q' : Option Value → List GObj → Prop} (hd : Ins M pc (.invokestatic idx) 3 pc') (hm : Met Z a0 n0 y fr lo k j as H Q')
    (w1 : (Jvm.Cond.methodLink M.1.cls idx y.1).before a0 Z = true) (w2 : (Jvm.Cond.static y.1).before a0 Z = true) (w3 : (Jvm.Cond.initialized y.1.cls).before a0 Z = true) (w4 : (Jvm.Cond.code y.1 y.2.1 y.2.2.1 y.2.2.2).before a0 Z = true) (hy : noHandle y.1.cls = true) (hpd : parseMethodDescriptor y.1.desc = some ⟨ps, r⟩) (hlen : as.length = ps.length) (hst : stk = as.reverse ++ rest) (hL : L.length = M.2.2.1)
    (hfr : fr + 1 ≤ R.frames) (hlo : (rest.map fun v => v.category).sum + (y.2.2.1 + 11) + lo ≤ R.locals) (hk : ce + k ≤ R.cells) (hj : sl + j ≤ R.slots)
    (h : ∀ v H', Q' v H' → ∃ g, H'.length = H.length + g ∧ Go Z a0 n0 M R Q pc' L (pushV v rest) H' (ce + g) (sl + j)) : Go Z a0 n0 M R Q pc L stk H ce sl := by
  obtain ⟨hd, rfl⟩ := hd
  subst hst
  intro p l e s m args below meth c T locs X C S E F
  obtain ⟨hx, hZ, hby, hml, hret, hlk, hown, hnm⟩ := id C
  obtain ⟨v, vm1, ⟨T', L', k', n'⟩, -, X', hS', hgr, ⟨Lc, hQ', l', y', z'⟩, st'⟩ := callSS X hx (y := y.1) hown (mvT hZ w1) (mvT hZ w2) (mvT hZ w3) (mvT hZ w4) (of_decide_eq_true hy)
    (backOfS (W := (rest.map fun v => v.category).sum) (Q := fun v h' L => ∃ H', Q' v H' ∧ Sat Z a0 n0 h' H' ∧ Fr n0 L) (hm l T.heap S) hZ w4 w3 hfr hlo) (g := mkF m pc L.toArray (as.reverse ++ rest)) rfl (by simpa [hml] using hL) (argsL := as) (rest := rest) (lenOf hpd hlen) rfl (by simp) (hb hby hd) (fun _ _ => ⟨rfl, rfl, hk, hj⟩)
  dsimp only [Pt.U, Pt.locs, Pt.cells, Pt.slots] at X' l' y' z' st' hQ' hS' hgr
  subst l' y' z'
  obtain ⟨H', q, S', N⟩ := hQ'
  obtain ⟨gg, hlen', g⟩ := h v H' q
  rw [pushV_eq] at g
  have hsz := S'.2.2.1
  have X2 := exact_cells (k' := ce + gg) X' (by show T'.heap.size ≤ s.heap.size + (ce + gg); omega)
  have G := g p l e (s.setVm T'.vm) m args below meth c T' _ X2 (C.since hS') S' (by show s.heap.size + (ce + gg) = n0 + H'.length; omega) (Fr.app F N)
  exact (End.since hS' (by omega) G).back (fun _ k => st'.trans k) (by omega)
theorem go_static {y : GM} {fr lo k j idx : Nat} {as rest stk : List Value} {ps : List FieldType} {r : Option FieldType} {Q' : Option Value → List GObj → Prop} (hd : Ins M pc (.invokestatic idx) 3 pc') (hm : Met Z a0 n0 y fr lo k j as H Q')
    (w1 : (Jvm.Cond.methodLink M.1.cls idx y.1).before a0 Z = true) (w2 : (Jvm.Cond.static y.1).before a0 Z = true) (w3 : (Jvm.Cond.initialized y.1.cls).before a0 Z = true) (w4 : (Jvm.Cond.code y.1 y.2.1 y.2.2.1 y.2.2.2).before a0 Z = true) (hy : noHandle y.1.cls = true) (hpd : parseMethodDescriptor y.1.desc = some ⟨ps, r⟩) (hlen : as.length = ps.length) (hst : stk = as.reverse ++ rest) (hL : L.length = M.2.2.1)
    (hfr : fr + 1 ≤ R.frames) (hlo : (rest.map fun v => v.category).sum + (y.2.2.1 + 11) + lo ≤ R.locals) (hk : ce + k ≤ R.cells) (hj : sl + j ≤ R.slots)
    (h : ∀ v H', Q' v H' → H'.length = H.length + k ∧ Go Z a0 n0 M R Q pc' L (pushV v rest) H' (ce + k) (sl + j)) : Go Z a0 n0 M R Q pc L stk H ce sl :=
  go_staticV hd hm w1 w2 w3 w4 hy hpd hlen hst hL hfr hlo hk hj fun v H' q => ⟨k, h v H' q⟩
theorem Sat.grow {h h' : Heap} {g : Nat} (S : Sat Z a0 n0 h H) (E : Ext h h') (hs : h'.size = h.size + g) : Sat Z a0 n0 h' (H ++ List.replicate g own_junk) := by
  obtain ⟨s1, s2, s3, s4⟩ := S
  refine ⟨s1, ⟨Nat.le_trans s2.1 E.1, fun a c q => E.2 a c (s2.2 a c q)⟩, by simp [hs, s3]; omega, fun k o' hk => ?_⟩
  rcases Nat.lt_or_ge k H.length with q | q
  · rw [List.getElem?_append_left q] at hk
    exact (s4 k o' hk).ext E
  · rw [List.getElem?_append_right q, List.getElem?_replicate] at hk
    split at hk
    · cases hk; exact trivial
    · cases hk
/-- ldc of a String constant: up to two cells of which nothing is known -/
theorem go_ldcS {idx n : Nat} {text : String} (hd : Ins M pc (.ldc idx) 2 pc') (w : (Jvm.Cond.stringLink M.1.cls idx text).before a0 Z = true) (wS : ∀ a ∈ Bundle.stringAtoms, a.before a0 Z = true) (hn : 4 * text.toList.length ≤ n) (hbig : n ≤ 536870912) (hc : ce + 2 ≤ R.cells) (hl : sl + (n + 4) ≤ R.slots)
    (h : ∀ (a : Addr) (g : Nat), g ≤ 2 → Go Z a0 n0 M R Q pc' L (.ref a :: st) (H ++ List.replicate g own_junk) (ce + g) (sl + (n + 4))) : Go Z a0 n0 M R Q pc L st H ce sl := by
  obtain ⟨hd, rfl⟩ := hd
  intro p l e s m args below meth c T locs X C S E F
  obtain ⟨hx, hZ, hby, hml, hret, hlk, hown, hnm⟩ := id C
  obtain ⟨a, T', h', k1, X', e', EX, hS', hk1, hZ', hown', st'⟩ := ldcS (s := s) (vm0 := s.vm) X hx hZ hown w wS rfl (k0 := 0) (State.WarmedH.since (State.WarmedH.refl s) 0) (Nat.zero_le _) (g := mkF m pc L.toArray st) rfl (hb hby hd) hn hbig hc hl
  subst e'
  have z1 := S.2.2.1
  have z2 := X'.heapSize
  have z3 := EX.1
  have z4 : (s.setVm T'.vm).heap.size = s.heap.size := rfl
  rw [z4] at z2
  have X2 := exact_cells (k' := ce + (T'.heap.size - T.heap.size)) X' (by rw [z4]; omega)
  have G := h a (T'.heap.size - T.heap.size) (by omega) p l e (s.setVm T'.vm) m args below meth c T' _ X2 (C.since hS') (S.grow EX (by omega)) (by rw [z4]; simp; omega) F
  exact (End.since hS' (by simp; omega) G).back st'
end CallsW
def M0 : GM := (x, code, maxLocals, ret)
theorem i0_0 : Ins M0 0 (.lload_n 0) 1 1 := ⟨at_0, rfl⟩
theorem i0_1 : Ins M0 1 (.l2i) 1 2 := ⟨at_1, rfl⟩
theorem i0_2 : Ins M0 2 (.ldc 7) 2 4 := ⟨at_2, rfl⟩
theorem i0_4 : Ins M0 4 (.iand) 1 5 := ⟨at_4, rfl⟩
theorem i0_5 : Ins M0 5 (.ldc 7) 2 7 := ⟨at_5, rfl⟩
theorem i0_7 : Ins M0 7 (.irem) 1 8 := ⟨at_7, rfl⟩
theorem i0_8 : Ins M0 8 (.istore 10) 2 10 := ⟨at_8, rfl⟩
theorem i0_10 : Ins M0 10 (.iconst 3) 1 11 := ⟨at_10, rfl⟩
theorem i0_11 : Ins M0 11 (.newarray .int) 2 13 := ⟨at_11, rfl⟩
theorem i0_13 : Ins M0 13 (.astore 11) 2 15 := ⟨at_13, rfl⟩
theorem i0_15 : Ins M0 15 (.aload 11) 2 17 := ⟨at_15, rfl⟩
theorem i0_17 : Ins M0 17 (.iconst 0) 1 18 := ⟨at_17, rfl⟩
theorem i0_18 : Ins M0 18 (.lload_n 2) 1 19 := ⟨at_18, rfl⟩
theorem i0_19 : Ins M0 19 (.l2i) 1 20 := ⟨at_19, rfl⟩
theorem i0_20 : Ins M0 20 (.ldc 7) 2 22 := ⟨at_20, rfl⟩
theorem i0_22 : Ins M0 22 (.iand) 1 23 := ⟨at_22, rfl⟩
theorem i0_23 : Ins M0 23 (.iastore) 1 24 := ⟨at_23, rfl⟩
theorem i0_24 : Ins M0 24 (.aload 11) 2 26 := ⟨at_24, rfl⟩
theorem i0_26 : Ins M0 26 (.iconst 1) 1 27 := ⟨at_26, rfl⟩
theorem i0_27 : Ins M0 27 (.lload_n 2) 1 28 := ⟨at_27, rfl⟩
theorem i0_28 : Ins M0 28 (.bipush 32) 2 30 := ⟨at_28, rfl⟩
theorem i0_30 : Ins M0 30 (.lushr) 1 31 := ⟨at_30, rfl⟩
theorem i0_31 : Ins M0 31 (.l2i) 1 32 := ⟨at_31, rfl⟩
theorem i0_32 : Ins M0 32 (.ldc 7) 2 34 := ⟨at_32, rfl⟩
theorem i0_34 : Ins M0 34 (.iand) 1 35 := ⟨at_34, rfl⟩
theorem i0_35 : Ins M0 35 (.iastore) 1 36 := ⟨at_35, rfl⟩
theorem i0_36 : Ins M0 36 (.aload 11) 2 38 := ⟨at_36, rfl⟩
theorem i0_38 : Ins M0 38 (.iconst 2) 1 39 := ⟨at_38, rfl⟩
theorem i0_39 : Ins M0 39 (.lload_n 0) 1 40 := ⟨at_39, rfl⟩
theorem i0_40 : Ins M0 40 (.bipush 32) 2 42 := ⟨at_40, rfl⟩
theorem i0_42 : Ins M0 42 (.lushr) 1 43 := ⟨at_42, rfl⟩
theorem i0_43 : Ins M0 43 (.l2i) 1 44 := ⟨at_43, rfl⟩
theorem i0_44 : Ins M0 44 (.ldc 7) 2 46 := ⟨at_44, rfl⟩
theorem i0_46 : Ins M0 46 (.iand) 1 47 := ⟨at_46, rfl⟩
theorem i0_47 : Ins M0 47 (.iastore) 1 48 := ⟨at_47, rfl⟩
theorem i0_48 : Ins M0 48 (.iconst 3) 1 49 := ⟨at_48, rfl⟩
theorem i0_49 : Ins M0 49 (.newarray .int) 2 51 := ⟨at_49, rfl⟩
theorem i0_51 : Ins M0 51 (.astore 12) 2 53 := ⟨at_51, rfl⟩
theorem i0_53 : Ins M0 53 (.aload 12) 2 55 := ⟨at_53, rfl⟩
theorem i0_55 : Ins M0 55 (.iconst 0) 1 56 := ⟨at_55, rfl⟩
theorem i0_56 : Ins M0 56 (.lload 4) 2 58 := ⟨at_56, rfl⟩
theorem i0_58 : Ins M0 58 (.l2i) 1 59 := ⟨at_58, rfl⟩
theorem i0_59 : Ins M0 59 (.iastore) 1 60 := ⟨at_59, rfl⟩
theorem i0_60 : Ins M0 60 (.aload 12) 2 62 := ⟨at_60, rfl⟩
theorem i0_62 : Ins M0 62 (.iconst 1) 1 63 := ⟨at_62, rfl⟩
theorem i0_63 : Ins M0 63 (.lload 4) 2 65 := ⟨at_63, rfl⟩
theorem i0_65 : Ins M0 65 (.bipush 32) 2 67 := ⟨at_65, rfl⟩
theorem i0_67 : Ins M0 67 (.lushr) 1 68 := ⟨at_67, rfl⟩
theorem i0_68 : Ins M0 68 (.l2i) 1 69 := ⟨at_68, rfl⟩
theorem i0_69 : Ins M0 69 (.iastore) 1 70 := ⟨at_69, rfl⟩
theorem i0_70 : Ins M0 70 (.aload 12) 2 72 := ⟨at_70, rfl⟩
theorem i0_72 : Ins M0 72 (.iconst 2) 1 73 := ⟨at_72, rfl⟩
theorem i0_73 : Ins M0 73 (.iload 6) 2 75 := ⟨at_73, rfl⟩
theorem i0_75 : Ins M0 75 (.iastore) 1 76 := ⟨at_75, rfl⟩
theorem i0_76 : Ins M0 76 (.iconst 3) 1 77 := ⟨at_76, rfl⟩
theorem i0_77 : Ins M0 77 (.newarray .int) 2 79 := ⟨at_77, rfl⟩
theorem i0_79 : Ins M0 79 (.astore 13) 2 81 := ⟨at_79, rfl⟩
theorem i0_81 : Ins M0 81 (.aload 13) 2 83 := ⟨at_81, rfl⟩
theorem i0_83 : Ins M0 83 (.iconst 0) 1 84 := ⟨at_83, rfl⟩
theorem i0_84 : Ins M0 84 (.lload 7) 2 86 := ⟨at_84, rfl⟩
theorem i0_86 : Ins M0 86 (.l2i) 1 87 := ⟨at_86, rfl⟩
theorem i0_87 : Ins M0 87 (.iastore) 1 88 := ⟨at_87, rfl⟩
theorem i0_88 : Ins M0 88 (.aload 13) 2 90 := ⟨at_88, rfl⟩
theorem i0_90 : Ins M0 90 (.iconst 1) 1 91 := ⟨at_90, rfl⟩
theorem i0_91 : Ins M0 91 (.lload 7) 2 93 := ⟨at_91, rfl⟩
theorem i0_93 : Ins M0 93 (.bipush 32) 2 95 := ⟨at_93, rfl⟩
theorem i0_95 : Ins M0 95 (.lushr) 1 96 := ⟨at_95, rfl⟩
theorem i0_96 : Ins M0 96 (.l2i) 1 97 := ⟨at_96, rfl⟩
theorem i0_97 : Ins M0 97 (.iastore) 1 98 := ⟨at_97, rfl⟩
theorem i0_98 : Ins M0 98 (.aload 13) 2 100 := ⟨at_98, rfl⟩
theorem i0_100 : Ins M0 100 (.iconst 2) 1 101 := ⟨at_100, rfl⟩
theorem i0_101 : Ins M0 101 (.iload 9) 2 103 := ⟨at_101, rfl⟩
theorem i0_103 : Ins M0 103 (.iastore) 1 104 := ⟨at_103, rfl⟩
theorem i0_104 : Ins M0 104 (.iconst 3) 1 105 := ⟨at_104, rfl⟩
theorem i0_105 : Ins M0 105 (.newarray .int) 2 107 := ⟨at_105, rfl⟩
theorem i0_107 : Ins M0 107 (.astore 14) 2 109 := ⟨at_107, rfl⟩
theorem i0_109 : Ins M0 109 (.aload 14) 2 111 := ⟨at_109, rfl⟩
theorem i0_111 : Ins M0 111 (.iconst 0) 1 112 := ⟨at_111, rfl⟩
theorem i0_112 : Ins M0 112 (.aload 11) 2 114 := ⟨at_112, rfl⟩
theorem i0_114 : Ins M0 114 (.iconst 0) 1 115 := ⟨at_114, rfl⟩
theorem i0_115 : Ins M0 115 (.iaload) 1 116 := ⟨at_115, rfl⟩
theorem i0_116 : Ins M0 116 (.ifCond .ne 8) 3 119 := ⟨at_116, rfl⟩
theorem i0_119 : Ins M0 119 (.iload 10) 2 121 := ⟨at_119, rfl⟩
theorem i0_121 : Ins M0 121 (.goto 7) 3 124 := ⟨at_121, rfl⟩
theorem i0_124 : Ins M0 124 (.aload 11) 2 126 := ⟨at_124, rfl⟩
theorem i0_126 : Ins M0 126 (.iconst 0) 1 127 := ⟨at_126, rfl⟩
theorem i0_127 : Ins M0 127 (.iaload) 1 128 := ⟨at_127, rfl⟩
theorem i0_128 : Ins M0 128 (.iastore) 1 129 := ⟨at_128, rfl⟩
theorem i0_129 : Ins M0 129 (.aload 14) 2 131 := ⟨at_129, rfl⟩
theorem i0_131 : Ins M0 131 (.iconst 1) 1 132 := ⟨at_131, rfl⟩
theorem i0_132 : Ins M0 132 (.aload 11) 2 134 := ⟨at_132, rfl⟩
theorem i0_134 : Ins M0 134 (.iconst 1) 1 135 := ⟨at_134, rfl⟩
theorem i0_135 : Ins M0 135 (.iaload) 1 136 := ⟨at_135, rfl⟩
theorem i0_136 : Ins M0 136 (.ifCond .ne 8) 3 139 := ⟨at_136, rfl⟩
theorem i0_139 : Ins M0 139 (.iload 10) 2 141 := ⟨at_139, rfl⟩
theorem i0_141 : Ins M0 141 (.goto 7) 3 144 := ⟨at_141, rfl⟩
theorem i0_144 : Ins M0 144 (.aload 11) 2 146 := ⟨at_144, rfl⟩
theorem i0_146 : Ins M0 146 (.iconst 1) 1 147 := ⟨at_146, rfl⟩
theorem i0_147 : Ins M0 147 (.iaload) 1 148 := ⟨at_147, rfl⟩
theorem i0_148 : Ins M0 148 (.iastore) 1 149 := ⟨at_148, rfl⟩
theorem i0_149 : Ins M0 149 (.aload 14) 2 151 := ⟨at_149, rfl⟩
theorem i0_151 : Ins M0 151 (.iconst 2) 1 152 := ⟨at_151, rfl⟩
theorem i0_152 : Ins M0 152 (.aload 11) 2 154 := ⟨at_152, rfl⟩
theorem i0_154 : Ins M0 154 (.iconst 2) 1 155 := ⟨at_154, rfl⟩
theorem i0_155 : Ins M0 155 (.iaload) 1 156 := ⟨at_155, rfl⟩
theorem i0_156 : Ins M0 156 (.ifCond .ne 8) 3 159 := ⟨at_156, rfl⟩
theorem i0_159 : Ins M0 159 (.iload 10) 2 161 := ⟨at_159, rfl⟩
theorem i0_161 : Ins M0 161 (.goto 7) 3 164 := ⟨at_161, rfl⟩
theorem i0_164 : Ins M0 164 (.aload 11) 2 166 := ⟨at_164, rfl⟩
theorem i0_166 : Ins M0 166 (.iconst 2) 1 167 := ⟨at_166, rfl⟩
theorem i0_167 : Ins M0 167 (.iaload) 1 168 := ⟨at_167, rfl⟩
theorem i0_168 : Ins M0 168 (.iastore) 1 169 := ⟨at_168, rfl⟩
theorem i0_169 : Ins M0 169 (.aload 14) 2 171 := ⟨at_169, rfl⟩
theorem i0_171 : Ins M0 171 (.iconst 0) 1 172 := ⟨at_171, rfl⟩
theorem i0_172 : Ins M0 172 (.iaload) 1 173 := ⟨at_172, rfl⟩
theorem i0_173 : Ins M0 173 (.i2l) 1 174 := ⟨at_173, rfl⟩
theorem i0_174 : Ins M0 174 (.aload 14) 2 176 := ⟨at_174, rfl⟩
theorem i0_176 : Ins M0 176 (.iconst 1) 1 177 := ⟨at_176, rfl⟩
theorem i0_177 : Ins M0 177 (.iaload) 1 178 := ⟨at_177, rfl⟩
theorem i0_178 : Ins M0 178 (.i2l) 1 179 := ⟨at_178, rfl⟩
theorem i0_179 : Ins M0 179 (.ladd) 1 180 := ⟨at_179, rfl⟩
theorem i0_180 : Ins M0 180 (.aload 14) 2 182 := ⟨at_180, rfl⟩
theorem i0_182 : Ins M0 182 (.iconst 2) 1 183 := ⟨at_182, rfl⟩
theorem i0_183 : Ins M0 183 (.iaload) 1 184 := ⟨at_183, rfl⟩
theorem i0_184 : Ins M0 184 (.i2l) 1 185 := ⟨at_184, rfl⟩
theorem i0_185 : Ins M0 185 (.ladd) 1 186 := ⟨at_185, rfl⟩
theorem i0_186 : Ins M0 186 (.lstore 15) 2 188 := ⟨at_186, rfl⟩
theorem i0_188 : Ins M0 188 (.iload 10) 2 190 := ⟨at_188, rfl⟩
theorem i0_190 : Ins M0 190 (.i2l) 1 191 := ⟨at_190, rfl⟩
theorem i0_191 : Ins M0 191 (.lload 15) 2 193 := ⟨at_191, rfl⟩
theorem i0_193 : Ins M0 193 (.invokestatic 8) 3 196 := ⟨at_193, rfl⟩
theorem i0_196 : Ins M0 196 (.lstore 17) 2 198 := ⟨at_196, rfl⟩
theorem i0_198 : Ins M0 198 (.iload 10) 2 200 := ⟨at_198, rfl⟩
theorem i0_200 : Ins M0 200 (.aload 11) 2 202 := ⟨at_200, rfl⟩
theorem i0_202 : Ins M0 202 (.aload 12) 2 204 := ⟨at_202, rfl⟩
theorem i0_204 : Ins M0 204 (.aload 13) 2 206 := ⟨at_204, rfl⟩
theorem i0_206 : Ins M0 206 (.invokestatic 14) 3 209 := ⟨at_206, rfl⟩
theorem i0_209 : Ins M0 209 (.astore 19) 2 211 := ⟨at_209, rfl⟩
theorem i0_211 : Ins M0 211 (.aload 19) 2 213 := ⟨at_211, rfl⟩
theorem i0_213 : Ins M0 213 (.ifnull 10) 3 216 := ⟨at_213, rfl⟩
theorem i0_216 : Ins M0 216 (.aload 19) 2 218 := ⟨at_216, rfl⟩
theorem i0_218 : Ins M0 218 (.arraylength) 1 219 := ⟨at_218, rfl⟩
theorem i0_219 : Ins M0 219 (.iconst 3) 1 220 := ⟨at_219, rfl⟩
theorem i0_220 : Ins M0 220 (.if_icmp .eq 5) 3 223 := ⟨at_220, rfl⟩
theorem i0_223 : Ins M0 223 (.iconst 0) 1 224 := ⟨at_223, rfl⟩
theorem i0_224 : Ins M0 224 (.ireturn) 1 225 := ⟨at_224, rfl⟩
theorem i0_225 : Ins M0 225 (.aload 19) 2 227 := ⟨at_225, rfl⟩
theorem i0_227 : Ins M0 227 (.iconst 0) 1 228 := ⟨at_227, rfl⟩
theorem i0_228 : Ins M0 228 (.iaload) 1 229 := ⟨at_228, rfl⟩
theorem i0_229 : Ins M0 229 (.i2l) 1 230 := ⟨at_229, rfl⟩
theorem i0_230 : Ins M0 230 (.aload 19) 2 232 := ⟨at_230, rfl⟩
theorem i0_232 : Ins M0 232 (.iconst 1) 1 233 := ⟨at_232, rfl⟩
theorem i0_233 : Ins M0 233 (.iaload) 1 234 := ⟨at_233, rfl⟩
theorem i0_234 : Ins M0 234 (.i2l) 1 235 := ⟨at_234, rfl⟩
theorem i0_235 : Ins M0 235 (.ladd) 1 236 := ⟨at_235, rfl⟩
theorem i0_236 : Ins M0 236 (.aload 19) 2 238 := ⟨at_236, rfl⟩
theorem i0_238 : Ins M0 238 (.iconst 2) 1 239 := ⟨at_238, rfl⟩
theorem i0_239 : Ins M0 239 (.iaload) 1 240 := ⟨at_239, rfl⟩
theorem i0_240 : Ins M0 240 (.i2l) 1 241 := ⟨at_240, rfl⟩
theorem i0_241 : Ins M0 241 (.ladd) 1 242 := ⟨at_241, rfl⟩
theorem i0_242 : Ins M0 242 (.lload 17) 2 244 := ⟨at_242, rfl⟩
theorem i0_244 : Ins M0 244 (.lcmp) 1 245 := ⟨at_244, rfl⟩
theorem i0_245 : Ins M0 245 (.ifCond .ne 7) 3 248 := ⟨at_245, rfl⟩
theorem i0_248 : Ins M0 248 (.iconst 1) 1 249 := ⟨at_248, rfl⟩
theorem i0_249 : Ins M0 249 (.goto 4) 3 252 := ⟨at_249, rfl⟩
theorem i0_252 : Ins M0 252 (.iconst 0) 1 253 := ⟨at_252, rfl⟩
theorem i0_253 : Ins M0 253 (.istore 20) 2 255 := ⟨at_253, rfl⟩
theorem i0_255 : Ins M0 255 (.iload 20) 2 257 := ⟨at_255, rfl⟩
theorem i0_257 : Ins M0 257 (.ifCond .eq 40) 3 260 := ⟨at_257, rfl⟩
theorem i0_260 : Ins M0 260 (.aload 19) 2 262 := ⟨at_260, rfl⟩
theorem i0_262 : Ins M0 262 (.aload 14) 2 264 := ⟨at_262, rfl⟩
theorem i0_264 : Ins M0 264 (.iconst 0) 1 265 := ⟨at_264, rfl⟩
theorem i0_265 : Ins M0 265 (.invokestatic 20) 3 268 := ⟨at_265, rfl⟩
theorem i0_268 : Ins M0 268 (.ifCond .eq 29) 3 271 := ⟨at_268, rfl⟩
theorem i0_271 : Ins M0 271 (.aload 19) 2 273 := ⟨at_271, rfl⟩
theorem i0_273 : Ins M0 273 (.aload 14) 2 275 := ⟨at_273, rfl⟩
theorem i0_275 : Ins M0 275 (.iconst 1) 1 276 := ⟨at_275, rfl⟩
theorem i0_276 : Ins M0 276 (.invokestatic 20) 3 279 := ⟨at_276, rfl⟩
theorem i0_279 : Ins M0 279 (.ifCond .eq 18) 3 282 := ⟨at_279, rfl⟩
theorem i0_282 : Ins M0 282 (.aload 19) 2 284 := ⟨at_282, rfl⟩
theorem i0_284 : Ins M0 284 (.aload 14) 2 286 := ⟨at_284, rfl⟩
theorem i0_286 : Ins M0 286 (.iconst 2) 1 287 := ⟨at_286, rfl⟩
theorem i0_287 : Ins M0 287 (.invokestatic 20) 3 290 := ⟨at_287, rfl⟩
theorem i0_290 : Ins M0 290 (.ifCond .eq 7) 3 293 := ⟨at_290, rfl⟩
theorem i0_293 : Ins M0 293 (.iconst 1) 1 294 := ⟨at_293, rfl⟩
theorem i0_294 : Ins M0 294 (.goto 4) 3 297 := ⟨at_294, rfl⟩
theorem i0_297 : Ins M0 297 (.iconst 0) 1 298 := ⟨at_297, rfl⟩
theorem i0_298 : Ins M0 298 (.istore 20) 2 300 := ⟨at_298, rfl⟩
theorem i0_300 : Ins M0 300 (.iload 20) 2 302 := ⟨at_300, rfl⟩
theorem i0_302 : Ins M0 302 (.ifCond .eq 39) 3 305 := ⟨at_302, rfl⟩
theorem i0_305 : Ins M0 305 (.aload 19) 2 307 := ⟨at_305, rfl⟩
theorem i0_307 : Ins M0 307 (.aload 14) 2 309 := ⟨at_307, rfl⟩
theorem i0_309 : Ins M0 309 (.aload 12) 2 311 := ⟨at_309, rfl⟩
theorem i0_311 : Ins M0 311 (.aload 13) 2 313 := ⟨at_311, rfl⟩
theorem i0_313 : Ins M0 313 (.iconst 0) 1 314 := ⟨at_313, rfl⟩
theorem i0_314 : Ins M0 314 (.iconst 1) 1 315 := ⟨at_314, rfl⟩
theorem i0_315 : Ins M0 315 (.invokestatic 26) 3 318 := ⟨at_315, rfl⟩
theorem i0_318 : Ins M0 318 (.ifCond .eq 23) 3 321 := ⟨at_318, rfl⟩
theorem i0_321 : Ins M0 321 (.aload 19) 2 323 := ⟨at_321, rfl⟩
theorem i0_323 : Ins M0 323 (.aload 14) 2 325 := ⟨at_323, rfl⟩
theorem i0_325 : Ins M0 325 (.aload 12) 2 327 := ⟨at_325, rfl⟩
theorem i0_327 : Ins M0 327 (.aload 13) 2 329 := ⟨at_327, rfl⟩
theorem i0_329 : Ins M0 329 (.iconst 1) 1 330 := ⟨at_329, rfl⟩
theorem i0_330 : Ins M0 330 (.iconst 0) 1 331 := ⟨at_330, rfl⟩
theorem i0_331 : Ins M0 331 (.invokestatic 26) 3 334 := ⟨at_331, rfl⟩
theorem i0_334 : Ins M0 334 (.ifCond .eq 7) 3 337 := ⟨at_334, rfl⟩
theorem i0_337 : Ins M0 337 (.iconst 1) 1 338 := ⟨at_337, rfl⟩
theorem i0_338 : Ins M0 338 (.goto 4) 3 341 := ⟨at_338, rfl⟩
theorem i0_341 : Ins M0 341 (.iconst 0) 1 342 := ⟨at_341, rfl⟩
theorem i0_342 : Ins M0 342 (.istore 20) 2 344 := ⟨at_342, rfl⟩
theorem i0_344 : Ins M0 344 (.iload 20) 2 346 := ⟨at_344, rfl⟩
theorem i0_346 : Ins M0 346 (.ifCond .eq 39) 3 349 := ⟨at_346, rfl⟩
theorem i0_349 : Ins M0 349 (.aload 19) 2 351 := ⟨at_349, rfl⟩
theorem i0_351 : Ins M0 351 (.aload 14) 2 353 := ⟨at_351, rfl⟩
theorem i0_353 : Ins M0 353 (.aload 12) 2 355 := ⟨at_353, rfl⟩
theorem i0_355 : Ins M0 355 (.aload 13) 2 357 := ⟨at_355, rfl⟩
theorem i0_357 : Ins M0 357 (.iconst 0) 1 358 := ⟨at_357, rfl⟩
theorem i0_358 : Ins M0 358 (.iconst 2) 1 359 := ⟨at_358, rfl⟩
theorem i0_359 : Ins M0 359 (.invokestatic 26) 3 362 := ⟨at_359, rfl⟩
theorem i0_362 : Ins M0 362 (.ifCond .eq 23) 3 365 := ⟨at_362, rfl⟩
theorem i0_365 : Ins M0 365 (.aload 19) 2 367 := ⟨at_365, rfl⟩
theorem i0_367 : Ins M0 367 (.aload 14) 2 369 := ⟨at_367, rfl⟩
theorem i0_369 : Ins M0 369 (.aload 12) 2 371 := ⟨at_369, rfl⟩
theorem i0_371 : Ins M0 371 (.aload 13) 2 373 := ⟨at_371, rfl⟩
theorem i0_373 : Ins M0 373 (.iconst 2) 1 374 := ⟨at_373, rfl⟩
theorem i0_374 : Ins M0 374 (.iconst 0) 1 375 := ⟨at_374, rfl⟩
theorem i0_375 : Ins M0 375 (.invokestatic 26) 3 378 := ⟨at_375, rfl⟩
theorem i0_378 : Ins M0 378 (.ifCond .eq 7) 3 381 := ⟨at_378, rfl⟩
theorem i0_381 : Ins M0 381 (.iconst 1) 1 382 := ⟨at_381, rfl⟩
theorem i0_382 : Ins M0 382 (.goto 4) 3 385 := ⟨at_382, rfl⟩
theorem i0_385 : Ins M0 385 (.iconst 0) 1 386 := ⟨at_385, rfl⟩
theorem i0_386 : Ins M0 386 (.istore 20) 2 388 := ⟨at_386, rfl⟩
theorem i0_388 : Ins M0 388 (.iload 20) 2 390 := ⟨at_388, rfl⟩
theorem i0_390 : Ins M0 390 (.ifCond .eq 39) 3 393 := ⟨at_390, rfl⟩
theorem i0_393 : Ins M0 393 (.aload 19) 2 395 := ⟨at_393, rfl⟩
theorem i0_395 : Ins M0 395 (.aload 14) 2 397 := ⟨at_395, rfl⟩
theorem i0_397 : Ins M0 397 (.aload 12) 2 399 := ⟨at_397, rfl⟩
theorem i0_399 : Ins M0 399 (.aload 13) 2 401 := ⟨at_399, rfl⟩
theorem i0_401 : Ins M0 401 (.iconst 1) 1 402 := ⟨at_401, rfl⟩
theorem i0_402 : Ins M0 402 (.iconst 2) 1 403 := ⟨at_402, rfl⟩
theorem i0_403 : Ins M0 403 (.invokestatic 26) 3 406 := ⟨at_403, rfl⟩
theorem i0_406 : Ins M0 406 (.ifCond .eq 23) 3 409 := ⟨at_406, rfl⟩
theorem i0_409 : Ins M0 409 (.aload 19) 2 411 := ⟨at_409, rfl⟩
theorem i0_411 : Ins M0 411 (.aload 14) 2 413 := ⟨at_411, rfl⟩
theorem i0_413 : Ins M0 413 (.aload 12) 2 415 := ⟨at_413, rfl⟩
theorem i0_415 : Ins M0 415 (.aload 13) 2 417 := ⟨at_415, rfl⟩
theorem i0_417 : Ins M0 417 (.iconst 2) 1 418 := ⟨at_417, rfl⟩
theorem i0_418 : Ins M0 418 (.iconst 1) 1 419 := ⟨at_418, rfl⟩
theorem i0_419 : Ins M0 419 (.invokestatic 26) 3 422 := ⟨at_419, rfl⟩
theorem i0_422 : Ins M0 422 (.ifCond .eq 7) 3 425 := ⟨at_422, rfl⟩
theorem i0_425 : Ins M0 425 (.iconst 1) 1 426 := ⟨at_425, rfl⟩
theorem i0_426 : Ins M0 426 (.goto 4) 3 429 := ⟨at_426, rfl⟩
theorem i0_429 : Ins M0 429 (.iconst 0) 1 430 := ⟨at_429, rfl⟩
theorem i0_430 : Ins M0 430 (.istore 20) 2 432 := ⟨at_430, rfl⟩
theorem i0_432 : Ins M0 432 (.iload 20) 2 434 := ⟨at_432, rfl⟩
theorem i0_434 : Ins M0 434 (.ireturn) 1 435 := ⟨at_434, rfl⟩
theorem pn0 : plainFor M0.1 = true := plainFor_of_name (by first | (simp [plainName, overriddenIn, M0, x]; done) | decide +kernel)
theorem pd0 : parseMethodDescriptor M0.1.desc = some ⟨[.long, .long, .long, .int, .long, .int], some (.boolean)⟩ := by decide +kernel
def M1 : GM := (⟨"java/lang/Math", "min", "(JJ)J"⟩, jdk_29_method_70_code, 4, some (.long))
theorem i1_0 : Ins M1 0 (.lload_n 0) 1 1 := ⟨by decide +kernel, rfl⟩
theorem i1_1 : Ins M1 1 (.lload_n 2) 1 2 := ⟨by decide +kernel, rfl⟩
theorem i1_2 : Ins M1 2 (.lcmp) 1 3 := ⟨by decide +kernel, rfl⟩
theorem i1_3 : Ins M1 3 (.ifCond .gt 7) 3 6 := ⟨by decide +kernel, rfl⟩
theorem i1_6 : Ins M1 6 (.lload_n 0) 1 7 := ⟨by decide +kernel, rfl⟩
theorem i1_7 : Ins M1 7 (.goto 4) 3 10 := ⟨by decide +kernel, rfl⟩
theorem i1_10 : Ins M1 10 (.lload_n 2) 1 11 := ⟨by decide +kernel, rfl⟩
theorem i1_11 : Ins M1 11 (.lreturn) 1 12 := ⟨by decide +kernel, rfl⟩
theorem pn1 : plainFor M1.1 = true := Jvm.Free.JP.mathPlain rfl (by decide +kernel)
theorem pd1 : parseMethodDescriptor M1.1.desc = some ⟨[.long, .long], some (.long)⟩ := by decide +kernel
def M2 : GM := (⟨"com/example/nopar/nopar/plan/Shares", "targets", "(I[I[I[I)[I"⟩, prog_31_method_2_code, 13, some ((.array .int)))
theorem i2_0 : Ins M2 0 (.aload_n 1) 1 1 := ⟨by decide +kernel, rfl⟩
theorem i2_1 : Ins M2 1 (.ldc 9) 2 3 := ⟨by decide +kernel, rfl⟩
theorem i2_3 : Ins M2 3 (.invokestatic 11) 3 6 := ⟨by decide +kernel, rfl⟩
theorem i2_6 : Ins M2 6 (.pop) 1 7 := ⟨by decide +kernel, rfl⟩
theorem i2_7 : Ins M2 7 (.aload_n 2) 1 8 := ⟨by decide +kernel, rfl⟩
theorem i2_8 : Ins M2 8 (.ldc 17) 2 10 := ⟨by decide +kernel, rfl⟩
theorem i2_10 : Ins M2 10 (.invokestatic 11) 3 13 := ⟨by decide +kernel, rfl⟩
theorem i2_13 : Ins M2 13 (.pop) 1 14 := ⟨by decide +kernel, rfl⟩
theorem i2_14 : Ins M2 14 (.aload_n 3) 1 15 := ⟨by decide +kernel, rfl⟩
theorem i2_15 : Ins M2 15 (.ldc 19) 2 17 := ⟨by decide +kernel, rfl⟩
theorem i2_17 : Ins M2 17 (.invokestatic 11) 3 20 := ⟨by decide +kernel, rfl⟩
theorem i2_20 : Ins M2 20 (.pop) 1 21 := ⟨by decide +kernel, rfl⟩
theorem i2_21 : Ins M2 21 (.iload_n 0) 1 22 := ⟨by decide +kernel, rfl⟩
theorem i2_22 : Ins M2 22 (.ifCond .ge 17) 3 25 := ⟨by decide +kernel, rfl⟩
theorem i2_25 : Ins M2 25 (.new 21) 3 28 := ⟨by decide +kernel, rfl⟩
theorem i2_28 : Ins M2 28 (.dup) 1 29 := ⟨by decide +kernel, rfl⟩
theorem i2_29 : Ins M2 29 (.iload_n 0) 1 30 := ⟨by decide +kernel, rfl⟩
theorem i2_30 : Ins M2 30 (.invokedynamic 23) 5 35 := ⟨by decide +kernel, rfl⟩
theorem i2_35 : Ins M2 35 (.invokespecial 27) 3 38 := ⟨by decide +kernel, rfl⟩
theorem i2_38 : Ins M2 38 (.athrow) 1 39 := ⟨by decide +kernel, rfl⟩
theorem i2_39 : Ins M2 39 (.aload_n 2) 1 40 := ⟨by decide +kernel, rfl⟩
theorem i2_40 : Ins M2 40 (.arraylength) 1 41 := ⟨by decide +kernel, rfl⟩
theorem i2_41 : Ins M2 41 (.aload_n 1) 1 42 := ⟨by decide +kernel, rfl⟩
theorem i2_42 : Ins M2 42 (.arraylength) 1 43 := ⟨by decide +kernel, rfl⟩
theorem i2_43 : Ins M2 43 (.if_icmp .ne 10) 3 46 := ⟨by decide +kernel, rfl⟩
theorem i2_46 : Ins M2 46 (.aload_n 3) 1 47 := ⟨by decide +kernel, rfl⟩
theorem i2_47 : Ins M2 47 (.arraylength) 1 48 := ⟨by decide +kernel, rfl⟩
theorem i2_48 : Ins M2 48 (.aload_n 1) 1 49 := ⟨by decide +kernel, rfl⟩
theorem i2_49 : Ins M2 49 (.arraylength) 1 50 := ⟨by decide +kernel, rfl⟩
theorem i2_50 : Ins M2 50 (.if_icmp .eq 13) 3 53 := ⟨by decide +kernel, rfl⟩
theorem i2_53 : Ins M2 53 (.new 21) 3 56 := ⟨by decide +kernel, rfl⟩
theorem i2_56 : Ins M2 56 (.dup) 1 57 := ⟨by decide +kernel, rfl⟩
theorem i2_57 : Ins M2 57 (.ldc 30) 2 59 := ⟨by decide +kernel, rfl⟩
theorem i2_59 : Ins M2 59 (.invokespecial 27) 3 62 := ⟨by decide +kernel, rfl⟩
theorem i2_62 : Ins M2 62 (.athrow) 1 63 := ⟨by decide +kernel, rfl⟩
theorem i2_63 : Ins M2 63 (.aload_n 1) 1 64 := ⟨by decide +kernel, rfl⟩
theorem i2_64 : Ins M2 64 (.arraylength) 1 65 := ⟨by decide +kernel, rfl⟩
theorem i2_65 : Ins M2 65 (.newarray .int) 2 67 := ⟨by decide +kernel, rfl⟩
theorem i2_67 : Ins M2 67 (.astore 4) 2 69 := ⟨by decide +kernel, rfl⟩
theorem i2_69 : Ins M2 69 (.lconst 0) 1 70 := ⟨by decide +kernel, rfl⟩
theorem i2_70 : Ins M2 70 (.lstore 5) 2 72 := ⟨by decide +kernel, rfl⟩
theorem i2_72 : Ins M2 72 (.iconst 0) 1 73 := ⟨by decide +kernel, rfl⟩
theorem i2_73 : Ins M2 73 (.istore 7) 2 75 := ⟨by decide +kernel, rfl⟩
theorem i2_75 : Ins M2 75 (.iload 7) 2 77 := ⟨by decide +kernel, rfl⟩
theorem i2_77 : Ins M2 77 (.aload_n 1) 1 78 := ⟨by decide +kernel, rfl⟩
theorem i2_78 : Ins M2 78 (.arraylength) 1 79 := ⟨by decide +kernel, rfl⟩
theorem i2_79 : Ins M2 79 (.if_icmp .ge 64) 3 82 := ⟨by decide +kernel, rfl⟩
theorem i2_82 : Ins M2 82 (.aload_n 1) 1 83 := ⟨by decide +kernel, rfl⟩
theorem i2_83 : Ins M2 83 (.iload 7) 2 85 := ⟨by decide +kernel, rfl⟩
theorem i2_85 : Ins M2 85 (.iaload) 1 86 := ⟨by decide +kernel, rfl⟩
theorem i2_86 : Ins M2 86 (.ifCond .ge 20) 3 89 := ⟨by decide +kernel, rfl⟩
theorem i2_89 : Ins M2 89 (.new 21) 3 92 := ⟨by decide +kernel, rfl⟩
theorem i2_92 : Ins M2 92 (.dup) 1 93 := ⟨by decide +kernel, rfl⟩
theorem i2_93 : Ins M2 93 (.aload_n 1) 1 94 := ⟨by decide +kernel, rfl⟩
theorem i2_94 : Ins M2 94 (.iload 7) 2 96 := ⟨by decide +kernel, rfl⟩
theorem i2_96 : Ins M2 96 (.iaload) 1 97 := ⟨by decide +kernel, rfl⟩
theorem i2_97 : Ins M2 97 (.invokedynamic 32) 5 102 := ⟨by decide +kernel, rfl⟩
theorem i2_102 : Ins M2 102 (.invokespecial 27) 3 105 := ⟨by decide +kernel, rfl⟩
theorem i2_105 : Ins M2 105 (.athrow) 1 106 := ⟨by decide +kernel, rfl⟩
theorem i2_106 : Ins M2 106 (.aload 4) 2 108 := ⟨by decide +kernel, rfl⟩
theorem i2_108 : Ins M2 108 (.iload 7) 2 110 := ⟨by decide +kernel, rfl⟩
theorem i2_110 : Ins M2 110 (.aload_n 1) 1 111 := ⟨by decide +kernel, rfl⟩
theorem i2_111 : Ins M2 111 (.iload 7) 2 113 := ⟨by decide +kernel, rfl⟩
theorem i2_113 : Ins M2 113 (.iaload) 1 114 := ⟨by decide +kernel, rfl⟩
theorem i2_114 : Ins M2 114 (.ifCond .ne 7) 3 117 := ⟨by decide +kernel, rfl⟩
theorem i2_117 : Ins M2 117 (.iload_n 0) 1 118 := ⟨by decide +kernel, rfl⟩
theorem i2_118 : Ins M2 118 (.goto 7) 3 121 := ⟨by decide +kernel, rfl⟩
theorem i2_121 : Ins M2 121 (.aload_n 1) 1 122 := ⟨by decide +kernel, rfl⟩
theorem i2_122 : Ins M2 122 (.iload 7) 2 124 := ⟨by decide +kernel, rfl⟩
theorem i2_124 : Ins M2 124 (.iaload) 1 125 := ⟨by decide +kernel, rfl⟩
theorem i2_125 : Ins M2 125 (.iastore) 1 126 := ⟨by decide +kernel, rfl⟩
theorem i2_126 : Ins M2 126 (.lload 5) 2 128 := ⟨by decide +kernel, rfl⟩
theorem i2_128 : Ins M2 128 (.aload 4) 2 130 := ⟨by decide +kernel, rfl⟩
theorem i2_130 : Ins M2 130 (.iload 7) 2 132 := ⟨by decide +kernel, rfl⟩
theorem i2_132 : Ins M2 132 (.iaload) 1 133 := ⟨by decide +kernel, rfl⟩
theorem i2_133 : Ins M2 133 (.i2l) 1 134 := ⟨by decide +kernel, rfl⟩
theorem i2_134 : Ins M2 134 (.ladd) 1 135 := ⟨by decide +kernel, rfl⟩
theorem i2_135 : Ins M2 135 (.lstore 5) 2 137 := ⟨by decide +kernel, rfl⟩
theorem i2_137 : Ins M2 137 (.iinc 7 1) 3 140 := ⟨by decide +kernel, rfl⟩
theorem i2_140 : Ins M2 140 (.goto (-65)) 3 143 := ⟨by decide +kernel, rfl⟩
theorem i2_143 : Ins M2 143 (.iload_n 0) 1 144 := ⟨by decide +kernel, rfl⟩
theorem i2_144 : Ins M2 144 (.i2l) 1 145 := ⟨by decide +kernel, rfl⟩
theorem i2_145 : Ins M2 145 (.lload 5) 2 147 := ⟨by decide +kernel, rfl⟩
theorem i2_147 : Ins M2 147 (.invokestatic 33) 3 150 := ⟨by decide +kernel, rfl⟩
theorem i2_150 : Ins M2 150 (.l2i) 1 151 := ⟨by decide +kernel, rfl⟩
theorem i2_151 : Ins M2 151 (.istore 7) 2 153 := ⟨by decide +kernel, rfl⟩
theorem i2_153 : Ins M2 153 (.aload 4) 2 155 := ⟨by decide +kernel, rfl⟩
theorem i2_155 : Ins M2 155 (.iload 7) 2 157 := ⟨by decide +kernel, rfl⟩
theorem i2_157 : Ins M2 157 (.invokestatic 39) 3 160 := ⟨by decide +kernel, rfl⟩
theorem i2_160 : Ins M2 160 (.istore 8) 2 162 := ⟨by decide +kernel, rfl⟩
theorem i2_162 : Ins M2 162 (.aload 4) 2 164 := ⟨by decide +kernel, rfl⟩
theorem i2_164 : Ins M2 164 (.arraylength) 1 165 := ⟨by decide +kernel, rfl⟩
theorem i2_165 : Ins M2 165 (.newarray .int) 2 167 := ⟨by decide +kernel, rfl⟩
theorem i2_167 : Ins M2 167 (.astore 9) 2 169 := ⟨by decide +kernel, rfl⟩
theorem i2_169 : Ins M2 169 (.iload 7) 2 171 := ⟨by decide +kernel, rfl⟩
theorem i2_171 : Ins M2 171 (.istore 10) 2 173 := ⟨by decide +kernel, rfl⟩
theorem i2_173 : Ins M2 173 (.iconst 0) 1 174 := ⟨by decide +kernel, rfl⟩
theorem i2_174 : Ins M2 174 (.istore 11) 2 176 := ⟨by decide +kernel, rfl⟩
theorem i2_176 : Ins M2 176 (.iload 11) 2 178 := ⟨by decide +kernel, rfl⟩
theorem i2_178 : Ins M2 178 (.aload 4) 2 180 := ⟨by decide +kernel, rfl⟩
theorem i2_180 : Ins M2 180 (.arraylength) 1 181 := ⟨by decide +kernel, rfl⟩
theorem i2_181 : Ins M2 181 (.if_icmp .ge 34) 3 184 := ⟨by decide +kernel, rfl⟩
theorem i2_184 : Ins M2 184 (.aload 9) 2 186 := ⟨by decide +kernel, rfl⟩
theorem i2_186 : Ins M2 186 (.iload 11) 2 188 := ⟨by decide +kernel, rfl⟩
theorem i2_188 : Ins M2 188 (.aload 4) 2 190 := ⟨by decide +kernel, rfl⟩
theorem i2_190 : Ins M2 190 (.iload 11) 2 192 := ⟨by decide +kernel, rfl⟩
theorem i2_192 : Ins M2 192 (.iaload) 1 193 := ⟨by decide +kernel, rfl⟩
theorem i2_193 : Ins M2 193 (.iload 8) 2 195 := ⟨by decide +kernel, rfl⟩
theorem i2_195 : Ins M2 195 (.invokestatic 45) 3 198 := ⟨by decide +kernel, rfl⟩
theorem i2_198 : Ins M2 198 (.iastore) 1 199 := ⟨by decide +kernel, rfl⟩
theorem i2_199 : Ins M2 199 (.iload 10) 2 201 := ⟨by decide +kernel, rfl⟩
theorem i2_201 : Ins M2 201 (.aload 9) 2 203 := ⟨by decide +kernel, rfl⟩
theorem i2_203 : Ins M2 203 (.iload 11) 2 205 := ⟨by decide +kernel, rfl⟩
theorem i2_205 : Ins M2 205 (.iaload) 1 206 := ⟨by decide +kernel, rfl⟩
theorem i2_206 : Ins M2 206 (.isub) 1 207 := ⟨by decide +kernel, rfl⟩
theorem i2_207 : Ins M2 207 (.istore 10) 2 209 := ⟨by decide +kernel, rfl⟩
theorem i2_209 : Ins M2 209 (.iinc 11 1) 3 212 := ⟨by decide +kernel, rfl⟩
theorem i2_212 : Ins M2 212 (.goto (-36)) 3 215 := ⟨by decide +kernel, rfl⟩
theorem i2_215 : Ins M2 215 (.iconst 0) 1 216 := ⟨by decide +kernel, rfl⟩
theorem i2_216 : Ins M2 216 (.istore 11) 2 218 := ⟨by decide +kernel, rfl⟩
theorem i2_218 : Ins M2 218 (.iload 11) 2 220 := ⟨by decide +kernel, rfl⟩
theorem i2_220 : Ins M2 220 (.iconst 2) 1 221 := ⟨by decide +kernel, rfl⟩
theorem i2_221 : Ins M2 221 (.if_icmp .gt 76) 3 224 := ⟨by decide +kernel, rfl⟩
theorem i2_224 : Ins M2 224 (.iload 10) 2 226 := ⟨by decide +kernel, rfl⟩
theorem i2_226 : Ins M2 226 (.ifCond .le 71) 3 229 := ⟨by decide +kernel, rfl⟩
theorem i2_229 : Ins M2 229 (.iconst 0) 1 230 := ⟨by decide +kernel, rfl⟩
theorem i2_230 : Ins M2 230 (.istore 12) 2 232 := ⟨by decide +kernel, rfl⟩
theorem i2_232 : Ins M2 232 (.iload 12) 2 234 := ⟨by decide +kernel, rfl⟩
theorem i2_234 : Ins M2 234 (.aload 4) 2 236 := ⟨by decide +kernel, rfl⟩
theorem i2_236 : Ins M2 236 (.arraylength) 1 237 := ⟨by decide +kernel, rfl⟩
theorem i2_237 : Ins M2 237 (.if_icmp .ge 54) 3 240 := ⟨by decide +kernel, rfl⟩
theorem i2_240 : Ins M2 240 (.iload 10) 2 242 := ⟨by decide +kernel, rfl⟩
theorem i2_242 : Ins M2 242 (.ifCond .le 49) 3 245 := ⟨by decide +kernel, rfl⟩
theorem i2_245 : Ins M2 245 (.aload 4) 2 247 := ⟨by decide +kernel, rfl⟩
theorem i2_247 : Ins M2 247 (.iload 12) 2 249 := ⟨by decide +kernel, rfl⟩
theorem i2_249 : Ins M2 249 (.iaload) 1 250 := ⟨by decide +kernel, rfl⟩
theorem i2_250 : Ins M2 250 (.iload 8) 2 252 := ⟨by decide +kernel, rfl⟩
theorem i2_252 : Ins M2 252 (.if_icmp .le 33) 3 255 := ⟨by decide +kernel, rfl⟩
theorem i2_255 : Ins M2 255 (.aload_n 2) 1 256 := ⟨by decide +kernel, rfl⟩
theorem i2_256 : Ins M2 256 (.iload 12) 2 258 := ⟨by decide +kernel, rfl⟩
theorem i2_258 : Ins M2 258 (.iaload) 1 259 := ⟨by decide +kernel, rfl⟩
theorem i2_259 : Ins M2 259 (.aload_n 3) 1 260 := ⟨by decide +kernel, rfl⟩
theorem i2_260 : Ins M2 260 (.iload 12) 2 262 := ⟨by decide +kernel, rfl⟩
theorem i2_262 : Ins M2 262 (.iaload) 1 263 := ⟨by decide +kernel, rfl⟩
theorem i2_263 : Ins M2 263 (.iload 8) 2 265 := ⟨by decide +kernel, rfl⟩
theorem i2_265 : Ins M2 265 (.invokestatic 48) 3 268 := ⟨by decide +kernel, rfl⟩
theorem i2_268 : Ins M2 268 (.iload 11) 2 270 := ⟨by decide +kernel, rfl⟩
theorem i2_270 : Ins M2 270 (.if_icmp .ne 15) 3 273 := ⟨by decide +kernel, rfl⟩
theorem i2_273 : Ins M2 273 (.aload 9) 2 275 := ⟨by decide +kernel, rfl⟩
theorem i2_275 : Ins M2 275 (.iload 12) 2 277 := ⟨by decide +kernel, rfl⟩
theorem i2_277 : Ins M2 277 (.dup2) 1 278 := ⟨by decide +kernel, rfl⟩
theorem i2_278 : Ins M2 278 (.iaload) 1 279 := ⟨by decide +kernel, rfl⟩
theorem i2_279 : Ins M2 279 (.iconst 1) 1 280 := ⟨by decide +kernel, rfl⟩
theorem i2_280 : Ins M2 280 (.iadd) 1 281 := ⟨by decide +kernel, rfl⟩
theorem i2_281 : Ins M2 281 (.iastore) 1 282 := ⟨by decide +kernel, rfl⟩
theorem i2_282 : Ins M2 282 (.iinc 10 (-1)) 3 285 := ⟨by decide +kernel, rfl⟩
theorem i2_285 : Ins M2 285 (.iinc 12 1) 3 288 := ⟨by decide +kernel, rfl⟩
theorem i2_288 : Ins M2 288 (.goto (-56)) 3 291 := ⟨by decide +kernel, rfl⟩
theorem i2_291 : Ins M2 291 (.iinc 11 1) 3 294 := ⟨by decide +kernel, rfl⟩
theorem i2_294 : Ins M2 294 (.goto (-76)) 3 297 := ⟨by decide +kernel, rfl⟩
theorem i2_297 : Ins M2 297 (.aload 9) 2 299 := ⟨by decide +kernel, rfl⟩
theorem i2_299 : Ins M2 299 (.areturn) 1 300 := ⟨by decide +kernel, rfl⟩
theorem pn2 : plainFor M2.1 = true := plainFor_of_name (by first | (simp [plainName, overriddenIn, M2, x]; done) | decide +kernel)
theorem pd2 : parseMethodDescriptor M2.1.desc = some ⟨[.int, (.array .int), (.array .int), (.array .int)], some ((.array .int))⟩ := by decide +kernel
def M3 : GM := (⟨"java/util/Objects", "requireNonNull", "(Ljava/lang/Object;Ljava/lang/String;)Ljava/lang/Object;"⟩, jdk_31_method_11_code, 2, some ((.object "java/lang/Object")))
theorem i3_0 : Ins M3 0 (.aload_n 0) 1 1 := ⟨by decide +kernel, rfl⟩
theorem i3_1 : Ins M3 1 (.ifnonnull 12) 3 4 := ⟨by decide +kernel, rfl⟩
theorem i3_4 : Ins M3 4 (.new 84) 3 7 := ⟨by decide +kernel, rfl⟩
theorem i3_7 : Ins M3 7 (.dup) 1 8 := ⟨by decide +kernel, rfl⟩
theorem i3_8 : Ins M3 8 (.aload_n 1) 1 9 := ⟨by decide +kernel, rfl⟩
theorem i3_9 : Ins M3 9 (.invokespecial 87) 3 12 := ⟨by decide +kernel, rfl⟩
theorem i3_12 : Ins M3 12 (.athrow) 1 13 := ⟨by decide +kernel, rfl⟩
theorem i3_13 : Ins M3 13 (.aload_n 0) 1 14 := ⟨by decide +kernel, rfl⟩
theorem i3_14 : Ins M3 14 (.areturn) 1 15 := ⟨by decide +kernel, rfl⟩
theorem pn3 : plainFor M3.1 = true := plainFor_of_name (by first | (simp [plainName, overriddenIn, M3, x]; done) | decide +kernel)
theorem pd3 : parseMethodDescriptor M3.1.desc = some ⟨[(.object "java/lang/Object"), (.object "java/lang/String")], some ((.object "java/lang/Object"))⟩ := by decide +kernel
def M4 : GM := (⟨"com/example/nopar/nopar/plan/Shares", "highestLevel", "([II)I"⟩, prog_31_method_4_code, 5, some (.int))
theorem i4_0 : Ins M4 0 (.iconst 0) 1 1 := ⟨by decide +kernel, rfl⟩
theorem i4_1 : Ins M4 1 (.istore_n 2) 1 2 := ⟨by decide +kernel, rfl⟩
theorem i4_2 : Ins M4 2 (.iload_n 1) 1 3 := ⟨by decide +kernel, rfl⟩
theorem i4_3 : Ins M4 3 (.istore_n 3) 1 4 := ⟨by decide +kernel, rfl⟩
theorem i4_4 : Ins M4 4 (.iload_n 2) 1 5 := ⟨by decide +kernel, rfl⟩
theorem i4_5 : Ins M4 5 (.iload_n 3) 1 6 := ⟨by decide +kernel, rfl⟩
theorem i4_6 : Ins M4 6 (.if_icmp .ge 40) 3 9 := ⟨by decide +kernel, rfl⟩
theorem i4_9 : Ins M4 9 (.iload_n 2) 1 10 := ⟨by decide +kernel, rfl⟩
theorem i4_10 : Ins M4 10 (.iload_n 3) 1 11 := ⟨by decide +kernel, rfl⟩
theorem i4_11 : Ins M4 11 (.iload_n 2) 1 12 := ⟨by decide +kernel, rfl⟩
theorem i4_12 : Ins M4 12 (.isub) 1 13 := ⟨by decide +kernel, rfl⟩
theorem i4_13 : Ins M4 13 (.iconst 1) 1 14 := ⟨by decide +kernel, rfl⟩
theorem i4_14 : Ins M4 14 (.iadd) 1 15 := ⟨by decide +kernel, rfl⟩
theorem i4_15 : Ins M4 15 (.iconst 2) 1 16 := ⟨by decide +kernel, rfl⟩
theorem i4_16 : Ins M4 16 (.idiv) 1 17 := ⟨by decide +kernel, rfl⟩
theorem i4_17 : Ins M4 17 (.iadd) 1 18 := ⟨by decide +kernel, rfl⟩
theorem i4_18 : Ins M4 18 (.istore 4) 2 20 := ⟨by decide +kernel, rfl⟩
theorem i4_20 : Ins M4 20 (.aload_n 0) 1 21 := ⟨by decide +kernel, rfl⟩
theorem i4_21 : Ins M4 21 (.iload 4) 2 23 := ⟨by decide +kernel, rfl⟩
theorem i4_23 : Ins M4 23 (.invokestatic 52) 3 26 := ⟨by decide +kernel, rfl⟩
theorem i4_26 : Ins M4 26 (.iload_n 1) 1 27 := ⟨by decide +kernel, rfl⟩
theorem i4_27 : Ins M4 27 (.i2l) 1 28 := ⟨by decide +kernel, rfl⟩
theorem i4_28 : Ins M4 28 (.lcmp) 1 29 := ⟨by decide +kernel, rfl⟩
theorem i4_29 : Ins M4 29 (.ifCond .gt 9) 3 32 := ⟨by decide +kernel, rfl⟩
theorem i4_32 : Ins M4 32 (.iload 4) 2 34 := ⟨by decide +kernel, rfl⟩
theorem i4_34 : Ins M4 34 (.istore_n 2) 1 35 := ⟨by decide +kernel, rfl⟩
theorem i4_35 : Ins M4 35 (.goto 8) 3 38 := ⟨by decide +kernel, rfl⟩
theorem i4_38 : Ins M4 38 (.iload 4) 2 40 := ⟨by decide +kernel, rfl⟩
theorem i4_40 : Ins M4 40 (.iconst 1) 1 41 := ⟨by decide +kernel, rfl⟩
theorem i4_41 : Ins M4 41 (.isub) 1 42 := ⟨by decide +kernel, rfl⟩
theorem i4_42 : Ins M4 42 (.istore_n 3) 1 43 := ⟨by decide +kernel, rfl⟩
theorem i4_43 : Ins M4 43 (.goto (-39)) 3 46 := ⟨by decide +kernel, rfl⟩
theorem i4_46 : Ins M4 46 (.iload_n 2) 1 47 := ⟨by decide +kernel, rfl⟩
theorem i4_47 : Ins M4 47 (.ireturn) 1 48 := ⟨by decide +kernel, rfl⟩
theorem pn4 : plainFor M4.1 = true := plainFor_of_name (by first | (simp [plainName, overriddenIn, M4, x]; done) | decide +kernel)
theorem pd4 : parseMethodDescriptor M4.1.desc = some ⟨[(.array .int), .int], some (.int)⟩ := by decide +kernel
def M5 : GM := (⟨"com/example/nopar/nopar/plan/Shares", "filled", "([II)J"⟩, prog_31_method_5_code, 8, some (.long))
theorem i5_0 : Ins M5 0 (.lconst 0) 1 1 := ⟨by decide +kernel, rfl⟩
theorem i5_1 : Ins M5 1 (.lstore_n 2) 1 2 := ⟨by decide +kernel, rfl⟩
theorem i5_2 : Ins M5 2 (.aload_n 0) 1 3 := ⟨by decide +kernel, rfl⟩
theorem i5_3 : Ins M5 3 (.astore 4) 2 5 := ⟨by decide +kernel, rfl⟩
theorem i5_5 : Ins M5 5 (.aload 4) 2 7 := ⟨by decide +kernel, rfl⟩
theorem i5_7 : Ins M5 7 (.arraylength) 1 8 := ⟨by decide +kernel, rfl⟩
theorem i5_8 : Ins M5 8 (.istore 5) 2 10 := ⟨by decide +kernel, rfl⟩
theorem i5_10 : Ins M5 10 (.iconst 0) 1 11 := ⟨by decide +kernel, rfl⟩
theorem i5_11 : Ins M5 11 (.istore 6) 2 13 := ⟨by decide +kernel, rfl⟩
theorem i5_13 : Ins M5 13 (.iload 6) 2 15 := ⟨by decide +kernel, rfl⟩
theorem i5_15 : Ins M5 15 (.iload 5) 2 17 := ⟨by decide +kernel, rfl⟩
theorem i5_17 : Ins M5 17 (.if_icmp .ge 26) 3 20 := ⟨by decide +kernel, rfl⟩
theorem i5_20 : Ins M5 20 (.aload 4) 2 22 := ⟨by decide +kernel, rfl⟩
theorem i5_22 : Ins M5 22 (.iload 6) 2 24 := ⟨by decide +kernel, rfl⟩
theorem i5_24 : Ins M5 24 (.iaload) 1 25 := ⟨by decide +kernel, rfl⟩
theorem i5_25 : Ins M5 25 (.istore 7) 2 27 := ⟨by decide +kernel, rfl⟩
theorem i5_27 : Ins M5 27 (.lload_n 2) 1 28 := ⟨by decide +kernel, rfl⟩
theorem i5_28 : Ins M5 28 (.iload 7) 2 30 := ⟨by decide +kernel, rfl⟩
theorem i5_30 : Ins M5 30 (.iload_n 1) 1 31 := ⟨by decide +kernel, rfl⟩
theorem i5_31 : Ins M5 31 (.invokestatic 45) 3 34 := ⟨by decide +kernel, rfl⟩
theorem i5_34 : Ins M5 34 (.i2l) 1 35 := ⟨by decide +kernel, rfl⟩
theorem i5_35 : Ins M5 35 (.ladd) 1 36 := ⟨by decide +kernel, rfl⟩
theorem i5_36 : Ins M5 36 (.lstore_n 2) 1 37 := ⟨by decide +kernel, rfl⟩
theorem i5_37 : Ins M5 37 (.iinc 6 1) 3 40 := ⟨by decide +kernel, rfl⟩
theorem i5_40 : Ins M5 40 (.goto (-27)) 3 43 := ⟨by decide +kernel, rfl⟩
theorem i5_43 : Ins M5 43 (.lload_n 2) 1 44 := ⟨by decide +kernel, rfl⟩
theorem i5_44 : Ins M5 44 (.lreturn) 1 45 := ⟨by decide +kernel, rfl⟩
theorem pn5 : plainFor M5.1 = true := plainFor_of_name (by first | (simp [plainName, overriddenIn, M5, x]; done) | decide +kernel)
theorem pd5 : parseMethodDescriptor M5.1.desc = some ⟨[(.array .int), .int], some (.long)⟩ := by decide +kernel
def M6 : GM := (⟨"java/lang/Math", "min", "(II)I"⟩, jdk_29_method_69_code, 2, some (.int))
theorem i6_0 : Ins M6 0 (.iload_n 0) 1 1 := ⟨by decide +kernel, rfl⟩
theorem i6_1 : Ins M6 1 (.iload_n 1) 1 2 := ⟨by decide +kernel, rfl⟩
theorem i6_2 : Ins M6 2 (.if_icmp .gt 7) 3 5 := ⟨by decide +kernel, rfl⟩
theorem i6_5 : Ins M6 5 (.iload_n 0) 1 6 := ⟨by decide +kernel, rfl⟩
theorem i6_6 : Ins M6 6 (.goto 4) 3 9 := ⟨by decide +kernel, rfl⟩
theorem i6_9 : Ins M6 9 (.iload_n 1) 1 10 := ⟨by decide +kernel, rfl⟩
theorem i6_10 : Ins M6 10 (.ireturn) 1 11 := ⟨by decide +kernel, rfl⟩
theorem pn6 : plainFor M6.1 = true := Jvm.Free.JP.mathPlain rfl (by decide +kernel)
theorem pd6 : parseMethodDescriptor M6.1.desc = some ⟨[.int, .int], some (.int)⟩ := by decide +kernel
def M7 : GM := (⟨"com/example/nopar/nopar/plan/SharesTargetsPinLaw", "within", "([I[II)Z"⟩, method_3_code, 3, some (.boolean))
theorem i7_0 : Ins M7 0 (.aload_n 0) 1 1 := ⟨by decide +kernel, rfl⟩
theorem i7_1 : Ins M7 1 (.iload_n 2) 1 2 := ⟨by decide +kernel, rfl⟩
theorem i7_2 : Ins M7 2 (.iaload) 1 3 := ⟨by decide +kernel, rfl⟩
theorem i7_3 : Ins M7 3 (.ifCond .lt 16) 3 6 := ⟨by decide +kernel, rfl⟩
theorem i7_6 : Ins M7 6 (.aload_n 0) 1 7 := ⟨by decide +kernel, rfl⟩
theorem i7_7 : Ins M7 7 (.iload_n 2) 1 8 := ⟨by decide +kernel, rfl⟩
theorem i7_8 : Ins M7 8 (.iaload) 1 9 := ⟨by decide +kernel, rfl⟩
theorem i7_9 : Ins M7 9 (.aload_n 1) 1 10 := ⟨by decide +kernel, rfl⟩
theorem i7_10 : Ins M7 10 (.iload_n 2) 1 11 := ⟨by decide +kernel, rfl⟩
theorem i7_11 : Ins M7 11 (.iaload) 1 12 := ⟨by decide +kernel, rfl⟩
theorem i7_12 : Ins M7 12 (.if_icmp .gt 7) 3 15 := ⟨by decide +kernel, rfl⟩
theorem i7_15 : Ins M7 15 (.iconst 1) 1 16 := ⟨by decide +kernel, rfl⟩
theorem i7_16 : Ins M7 16 (.goto 4) 3 19 := ⟨by decide +kernel, rfl⟩
theorem i7_19 : Ins M7 19 (.iconst 0) 1 20 := ⟨by decide +kernel, rfl⟩
theorem i7_20 : Ins M7 20 (.ireturn) 1 21 := ⟨by decide +kernel, rfl⟩
theorem pn7 : plainFor M7.1 = true := plainFor_of_name (by first | (simp [plainName, overriddenIn, M7, x]; done) | decide +kernel)
theorem pd7 : parseMethodDescriptor M7.1.desc = some ⟨[(.array .int), (.array .int), .int], some (.boolean)⟩ := by decide +kernel
def M8 : GM := (⟨"com/example/nopar/nopar/plan/SharesTargetsPinLaw", "pair", "([I[I[I[III)Z"⟩, method_5_code, 11, some (.boolean))
theorem i8_0 : Ins M8 0 (.aload_n 0) 1 1 := ⟨by decide +kernel, rfl⟩
theorem i8_1 : Ins M8 1 (.iload 4) 2 3 := ⟨by decide +kernel, rfl⟩
theorem i8_3 : Ins M8 3 (.iaload) 1 4 := ⟨by decide +kernel, rfl⟩
theorem i8_4 : Ins M8 4 (.aload_n 1) 1 5 := ⟨by decide +kernel, rfl⟩
theorem i8_5 : Ins M8 5 (.iload 4) 2 7 := ⟨by decide +kernel, rfl⟩
theorem i8_7 : Ins M8 7 (.iaload) 1 8 := ⟨by decide +kernel, rfl⟩
theorem i8_8 : Ins M8 8 (.if_icmp .ge 19) 3 11 := ⟨by decide +kernel, rfl⟩
theorem i8_11 : Ins M8 11 (.aload_n 0) 1 12 := ⟨by decide +kernel, rfl⟩
theorem i8_12 : Ins M8 12 (.iload 5) 2 14 := ⟨by decide +kernel, rfl⟩
theorem i8_14 : Ins M8 14 (.iaload) 1 15 := ⟨by decide +kernel, rfl⟩
theorem i8_15 : Ins M8 15 (.i2l) 1 16 := ⟨by decide +kernel, rfl⟩
theorem i8_16 : Ins M8 16 (.aload_n 0) 1 17 := ⟨by decide +kernel, rfl⟩
theorem i8_17 : Ins M8 17 (.iload 4) 2 19 := ⟨by decide +kernel, rfl⟩
theorem i8_19 : Ins M8 19 (.iaload) 1 20 := ⟨by decide +kernel, rfl⟩
theorem i8_20 : Ins M8 20 (.i2l) 1 21 := ⟨by decide +kernel, rfl⟩
theorem i8_21 : Ins M8 21 (.lconst 1) 1 22 := ⟨by decide +kernel, rfl⟩
theorem i8_22 : Ins M8 22 (.ladd) 1 23 := ⟨by decide +kernel, rfl⟩
theorem i8_23 : Ins M8 23 (.lcmp) 1 24 := ⟨by decide +kernel, rfl⟩
theorem i8_24 : Ins M8 24 (.ifCond .gt 7) 3 27 := ⟨by decide +kernel, rfl⟩
theorem i8_27 : Ins M8 27 (.iconst 1) 1 28 := ⟨by decide +kernel, rfl⟩
theorem i8_28 : Ins M8 28 (.goto 4) 3 31 := ⟨by decide +kernel, rfl⟩
theorem i8_31 : Ins M8 31 (.iconst 0) 1 32 := ⟨by decide +kernel, rfl⟩
theorem i8_32 : Ins M8 32 (.istore 6) 2 34 := ⟨by decide +kernel, rfl⟩
theorem i8_34 : Ins M8 34 (.iconst 1) 1 35 := ⟨by decide +kernel, rfl⟩
theorem i8_35 : Ins M8 35 (.istore 7) 2 37 := ⟨by decide +kernel, rfl⟩
theorem i8_37 : Ins M8 37 (.aload_n 0) 1 38 := ⟨by decide +kernel, rfl⟩
theorem i8_38 : Ins M8 38 (.iload 4) 2 40 := ⟨by decide +kernel, rfl⟩
theorem i8_40 : Ins M8 40 (.iaload) 1 41 := ⟨by decide +kernel, rfl⟩
theorem i8_41 : Ins M8 41 (.i2l) 1 42 := ⟨by decide +kernel, rfl⟩
theorem i8_42 : Ins M8 42 (.aload_n 0) 1 43 := ⟨by decide +kernel, rfl⟩
theorem i8_43 : Ins M8 43 (.iload 5) 2 45 := ⟨by decide +kernel, rfl⟩
theorem i8_45 : Ins M8 45 (.iaload) 1 46 := ⟨by decide +kernel, rfl⟩
theorem i8_46 : Ins M8 46 (.i2l) 1 47 := ⟨by decide +kernel, rfl⟩
theorem i8_47 : Ins M8 47 (.lconst 1) 1 48 := ⟨by decide +kernel, rfl⟩
theorem i8_48 : Ins M8 48 (.ladd) 1 49 := ⟨by decide +kernel, rfl⟩
theorem i8_49 : Ins M8 49 (.lcmp) 1 50 := ⟨by decide +kernel, rfl⟩
theorem i8_50 : Ins M8 50 (.ifCond .ne 78) 3 53 := ⟨by decide +kernel, rfl⟩
theorem i8_53 : Ins M8 53 (.aload_n 0) 1 54 := ⟨by decide +kernel, rfl⟩
theorem i8_54 : Ins M8 54 (.iload 5) 2 56 := ⟨by decide +kernel, rfl⟩
theorem i8_56 : Ins M8 56 (.iaload) 1 57 := ⟨by decide +kernel, rfl⟩
theorem i8_57 : Ins M8 57 (.aload_n 1) 1 58 := ⟨by decide +kernel, rfl⟩
theorem i8_58 : Ins M8 58 (.iload 5) 2 60 := ⟨by decide +kernel, rfl⟩
theorem i8_60 : Ins M8 60 (.iaload) 1 61 := ⟨by decide +kernel, rfl⟩
theorem i8_61 : Ins M8 61 (.if_icmp .ge 67) 3 64 := ⟨by decide +kernel, rfl⟩
theorem i8_64 : Ins M8 64 (.aload_n 0) 1 65 := ⟨by decide +kernel, rfl⟩
theorem i8_65 : Ins M8 65 (.iload 5) 2 67 := ⟨by decide +kernel, rfl⟩
theorem i8_67 : Ins M8 67 (.iaload) 1 68 := ⟨by decide +kernel, rfl⟩
theorem i8_68 : Ins M8 68 (.istore 8) 2 70 := ⟨by decide +kernel, rfl⟩
theorem i8_70 : Ins M8 70 (.aload_n 2) 1 71 := ⟨by decide +kernel, rfl⟩
theorem i8_71 : Ins M8 71 (.iload 4) 2 73 := ⟨by decide +kernel, rfl⟩
theorem i8_73 : Ins M8 73 (.iaload) 1 74 := ⟨by decide +kernel, rfl⟩
theorem i8_74 : Ins M8 74 (.aload_n 3) 1 75 := ⟨by decide +kernel, rfl⟩
theorem i8_75 : Ins M8 75 (.iload 4) 2 77 := ⟨by decide +kernel, rfl⟩
theorem i8_77 : Ins M8 77 (.iaload) 1 78 := ⟨by decide +kernel, rfl⟩
theorem i8_78 : Ins M8 78 (.iload 8) 2 80 := ⟨by decide +kernel, rfl⟩
theorem i8_80 : Ins M8 80 (.invokestatic 30) 3 83 := ⟨by decide +kernel, rfl⟩
theorem i8_83 : Ins M8 83 (.istore 9) 2 85 := ⟨by decide +kernel, rfl⟩
theorem i8_85 : Ins M8 85 (.aload_n 2) 1 86 := ⟨by decide +kernel, rfl⟩
theorem i8_86 : Ins M8 86 (.iload 5) 2 88 := ⟨by decide +kernel, rfl⟩
theorem i8_88 : Ins M8 88 (.iaload) 1 89 := ⟨by decide +kernel, rfl⟩
theorem i8_89 : Ins M8 89 (.aload_n 3) 1 90 := ⟨by decide +kernel, rfl⟩
theorem i8_90 : Ins M8 90 (.iload 5) 2 92 := ⟨by decide +kernel, rfl⟩
theorem i8_92 : Ins M8 92 (.iaload) 1 93 := ⟨by decide +kernel, rfl⟩
theorem i8_93 : Ins M8 93 (.iload 8) 2 95 := ⟨by decide +kernel, rfl⟩
theorem i8_95 : Ins M8 95 (.invokestatic 30) 3 98 := ⟨by decide +kernel, rfl⟩
theorem i8_98 : Ins M8 98 (.istore 10) 2 100 := ⟨by decide +kernel, rfl⟩
theorem i8_100 : Ins M8 100 (.iload 9) 2 102 := ⟨by decide +kernel, rfl⟩
theorem i8_102 : Ins M8 102 (.iload 10) 2 104 := ⟨by decide +kernel, rfl⟩
theorem i8_104 : Ins M8 104 (.if_icmp .lt 17) 3 107 := ⟨by decide +kernel, rfl⟩
theorem i8_107 : Ins M8 107 (.iload 9) 2 109 := ⟨by decide +kernel, rfl⟩
theorem i8_109 : Ins M8 109 (.iload 10) 2 111 := ⟨by decide +kernel, rfl⟩
theorem i8_111 : Ins M8 111 (.if_icmp .ne 14) 3 114 := ⟨by decide +kernel, rfl⟩
theorem i8_114 : Ins M8 114 (.iload 4) 2 116 := ⟨by decide +kernel, rfl⟩
theorem i8_116 : Ins M8 116 (.iload 5) 2 118 := ⟨by decide +kernel, rfl⟩
theorem i8_118 : Ins M8 118 (.if_icmp .ge 7) 3 121 := ⟨by decide +kernel, rfl⟩
theorem i8_121 : Ins M8 121 (.iconst 1) 1 122 := ⟨by decide +kernel, rfl⟩
theorem i8_122 : Ins M8 122 (.goto 4) 3 125 := ⟨by decide +kernel, rfl⟩
theorem i8_125 : Ins M8 125 (.iconst 0) 1 126 := ⟨by decide +kernel, rfl⟩
theorem i8_126 : Ins M8 126 (.istore 7) 2 128 := ⟨by decide +kernel, rfl⟩
theorem i8_128 : Ins M8 128 (.iload 6) 2 130 := ⟨by decide +kernel, rfl⟩
theorem i8_130 : Ins M8 130 (.ifCond .eq 12) 3 133 := ⟨by decide +kernel, rfl⟩
theorem i8_133 : Ins M8 133 (.iload 7) 2 135 := ⟨by decide +kernel, rfl⟩
theorem i8_135 : Ins M8 135 (.ifCond .eq 7) 3 138 := ⟨by decide +kernel, rfl⟩
theorem i8_138 : Ins M8 138 (.iconst 1) 1 139 := ⟨by decide +kernel, rfl⟩
theorem i8_139 : Ins M8 139 (.goto 4) 3 142 := ⟨by decide +kernel, rfl⟩
theorem i8_142 : Ins M8 142 (.iconst 0) 1 143 := ⟨by decide +kernel, rfl⟩
theorem i8_143 : Ins M8 143 (.ireturn) 1 144 := ⟨by decide +kernel, rfl⟩
theorem pn8 : plainFor M8.1 = true := plainFor_of_name (by first | (simp [plainName, overriddenIn, M8, x]; done) | decide +kernel)
theorem pd8 : parseMethodDescriptor M8.1.desc = some ⟨[(.array .int), (.array .int), (.array .int), (.array .int), .int, .int], some (.boolean)⟩ := by decide +kernel
def M9 : GM := (⟨"com/example/nopar/nopar/plan/Shares", "step", "(III)I"⟩, prog_31_method_3_code, 4, some (.int))
theorem i9_0 : Ins M9 0 (.iconst 2) 1 1 := ⟨by decide +kernel, rfl⟩
theorem i9_1 : Ins M9 1 (.istore_n 3) 1 2 := ⟨by decide +kernel, rfl⟩
theorem i9_2 : Ins M9 2 (.iload_n 0) 1 3 := ⟨by decide +kernel, rfl⟩
theorem i9_3 : Ins M9 3 (.iload_n 2) 1 4 := ⟨by decide +kernel, rfl⟩
theorem i9_4 : Ins M9 4 (.if_icmp .le 8) 3 7 := ⟨by decide +kernel, rfl⟩
theorem i9_7 : Ins M9 7 (.iconst 0) 1 8 := ⟨by decide +kernel, rfl⟩
theorem i9_8 : Ins M9 8 (.istore_n 3) 1 9 := ⟨by decide +kernel, rfl⟩
theorem i9_9 : Ins M9 9 (.goto 16) 3 12 := ⟨by decide +kernel, rfl⟩
theorem i9_12 : Ins M9 12 (.iload_n 0) 1 13 := ⟨by decide +kernel, rfl⟩
theorem i9_13 : Ins M9 13 (.i2l) 1 14 := ⟨by decide +kernel, rfl⟩
theorem i9_14 : Ins M9 14 (.iload_n 1) 1 15 := ⟨by decide +kernel, rfl⟩
theorem i9_15 : Ins M9 15 (.i2l) 1 16 := ⟨by decide +kernel, rfl⟩
theorem i9_16 : Ins M9 16 (.ladd) 1 17 := ⟨by decide +kernel, rfl⟩
theorem i9_17 : Ins M9 17 (.iload_n 2) 1 18 := ⟨by decide +kernel, rfl⟩
theorem i9_18 : Ins M9 18 (.i2l) 1 19 := ⟨by decide +kernel, rfl⟩
theorem i9_19 : Ins M9 19 (.lcmp) 1 20 := ⟨by decide +kernel, rfl⟩
theorem i9_20 : Ins M9 20 (.ifCond .le 5) 3 23 := ⟨by decide +kernel, rfl⟩
theorem i9_23 : Ins M9 23 (.iconst 1) 1 24 := ⟨by decide +kernel, rfl⟩
theorem i9_24 : Ins M9 24 (.istore_n 3) 1 25 := ⟨by decide +kernel, rfl⟩
theorem i9_25 : Ins M9 25 (.iload_n 3) 1 26 := ⟨by decide +kernel, rfl⟩
theorem i9_26 : Ins M9 26 (.ireturn) 1 27 := ⟨by decide +kernel, rfl⟩
theorem pn9 : plainFor M9.1 = true := plainFor_of_name (by first | (simp [plainName, overriddenIn, M9, x]; done) | decide +kernel)
theorem pd9 : parseMethodDescriptor M9.1.desc = some ⟨[.int, .int, .int], some (.int)⟩ := by decide +kernel
def M10 : GM := (⟨"com/example/nopar/nopar/plan/SharesTargetsPinLaw", "priority", "(III)I"⟩, method_4_code, 3, some (.int))
theorem i10_0 : Ins M10 0 (.iload_n 0) 1 1 := ⟨by decide +kernel, rfl⟩
theorem i10_1 : Ins M10 1 (.iload_n 2) 1 2 := ⟨by decide +kernel, rfl⟩
theorem i10_2 : Ins M10 2 (.if_icmp .le 5) 3 5 := ⟨by decide +kernel, rfl⟩
theorem i10_5 : Ins M10 5 (.iconst 0) 1 6 := ⟨by decide +kernel, rfl⟩
theorem i10_6 : Ins M10 6 (.ireturn) 1 7 := ⟨by decide +kernel, rfl⟩
theorem i10_7 : Ins M10 7 (.iload_n 0) 1 8 := ⟨by decide +kernel, rfl⟩
theorem i10_8 : Ins M10 8 (.i2l) 1 9 := ⟨by decide +kernel, rfl⟩
theorem i10_9 : Ins M10 9 (.iload_n 1) 1 10 := ⟨by decide +kernel, rfl⟩
theorem i10_10 : Ins M10 10 (.i2l) 1 11 := ⟨by decide +kernel, rfl⟩
theorem i10_11 : Ins M10 11 (.ladd) 1 12 := ⟨by decide +kernel, rfl⟩
theorem i10_12 : Ins M10 12 (.iload_n 2) 1 13 := ⟨by decide +kernel, rfl⟩
theorem i10_13 : Ins M10 13 (.i2l) 1 14 := ⟨by decide +kernel, rfl⟩
theorem i10_14 : Ins M10 14 (.lcmp) 1 15 := ⟨by decide +kernel, rfl⟩
theorem i10_15 : Ins M10 15 (.ifCond .le 5) 3 18 := ⟨by decide +kernel, rfl⟩
theorem i10_18 : Ins M10 18 (.iconst 1) 1 19 := ⟨by decide +kernel, rfl⟩
theorem i10_19 : Ins M10 19 (.ireturn) 1 20 := ⟨by decide +kernel, rfl⟩
theorem i10_20 : Ins M10 20 (.iconst 2) 1 21 := ⟨by decide +kernel, rfl⟩
theorem i10_21 : Ins M10 21 (.ireturn) 1 22 := ⟨by decide +kernel, rfl⟩
theorem pn10 : plainFor M10.1 = true := plainFor_of_name (by first | (simp [plainName, overriddenIn, M10, x]; done) | decide +kernel)
theorem pd10 : parseMethodDescriptor M10.1.desc = some ⟨[.int, .int, .int], some (.int)⟩ := by decide +kernel
def own_st (h r lv : Int) : Nat := if lv < h then 0 else if lv < h + r then 1 else 2
theorem own_st_le (h r lv : Int) : own_st h r lv ≤ 2 := by
  unfold own_st
  split
  · omega
  · split <;> omega
abbrev OS : Type := Nat × Nat × Nat × Nat
def own_t0 (g : Bool) (t s : Nat) (x : OS) : OS := if 0 < x.1 ∧ g = true ∧ t = s then (x.1 - 1, x.2.1 + 1, x.2.2.1, x.2.2.2) else x
def own_t1 (g : Bool) (t s : Nat) (x : OS) : OS := if 0 < x.1 ∧ g = true ∧ t = s then (x.1 - 1, x.2.1, x.2.2.1 + 1, x.2.2.2) else x
def own_t2 (g : Bool) (t s : Nat) (x : OS) : OS := if 0 < x.1 ∧ g = true ∧ t = s then (x.1 - 1, x.2.1, x.2.2.1, x.2.2.2 + 1) else x
def own_rd (g0 g1 g2 : Bool) (t0 t1 t2 s : Nat) (x : OS) : OS := own_t2 g2 t2 s (own_t1 g1 t1 s (own_t0 g0 t0 s x))
def own_run (g0 g1 g2 : Bool) (t0 t1 t2 R : Nat) : OS := own_rd g0 g1 g2 t0 t1 t2 2 (own_rd g0 g1 g2 t0 t1 t2 1 (own_rd g0 g1 g2 t0 t1 t2 0 (R, 0, 0, 0)))
def own_b (g : Bool) : Nat := if g then 1 else 0
def own_or (i j ei ej ti tj : Nat) (gj : Bool) : Prop := ei = 1 → ej = 0 → gj = true → ti < tj ∨ (ti = tj ∧ i < j)
def own_ob (i j ei ej ti tj : Nat) (gj : Bool) : Bool := !(Nat.beq ei 1 && Nat.beq ej 0 && gj) || (Nat.blt ti tj || (Nat.beq ti tj && Nat.blt i j))
theorem own_ob_or {i j ei ej ti tj : Nat} {gj : Bool} (h : own_ob i j ei ej ti tj gj = true) : own_or i j ei ej ti tj gj := by
  intro h1 h2 h3
  subst h1 h2 h3
  simp only [own_ob, Nat.beq_eq, Bool.or_eq_true, Bool.and_eq_true, Nat.blt_eq, Bool.not_eq_true', Bool.and_eq_false_iff] at h
  rcases h with h | h
  · simp at h
  · exact h
def own_gB (g0 g1 g2 : Bool) (t0 t1 t2 R : Nat) (x : OS) : Bool :=
  Nat.ble x.2.1 (own_b g0) && (Nat.ble x.2.2.1 (own_b g1) && (Nat.ble x.2.2.2 (own_b g2) && (Nat.beq (x.2.1 + x.2.2.1 + x.2.2.2) R && (own_ob 0 1 x.2.1 x.2.2.1 t0 t1 g1 && (own_ob 1 0 x.2.2.1 x.2.1 t1 t0 g0 && (own_ob 0 2 x.2.1 x.2.2.2 t0 t2 g2 && (own_ob 2 0 x.2.2.2 x.2.1 t2 t0 g0 && (own_ob 1 2 x.2.2.1 x.2.2.2 t1 t2 g2 && own_ob 2 1 x.2.2.2 x.2.2.1 t2 t1 g1))))))))
def own_good (g0 g1 g2 : Bool) (t0 t1 t2 R : Nat) (x : OS) : Prop :=
  x.2.1 ≤ own_b g0 ∧ x.2.2.1 ≤ own_b g1 ∧ x.2.2.2 ≤ own_b g2 ∧ x.2.1 + x.2.2.1 + x.2.2.2 = R ∧ own_or 0 1 x.2.1 x.2.2.1 t0 t1 g1 ∧ own_or 1 0 x.2.2.1 x.2.1 t1 t0 g0 ∧ own_or 0 2 x.2.1 x.2.2.2 t0 t2 g2 ∧ own_or 2 0 x.2.2.2 x.2.1 t2 t0 g0 ∧ own_or 1 2 x.2.2.1 x.2.2.2 t1 t2 g2 ∧ own_or 2 1 x.2.2.2 x.2.2.1 t2 t1 g1
theorem own_gB_of {g0 g1 g2 : Bool} {t0 t1 t2 R : Nat} {x : OS} (h : own_gB g0 g1 g2 t0 t1 t2 R x = true) : own_good g0 g1 g2 t0 t1 t2 R x := by
  simp only [own_gB, Bool.and_eq_true] at h
  obtain ⟨a1, a2, a3, a4, a5, a6, a7, a8, a9, a10⟩ := h
  exact ⟨Nat.le_of_ble_eq_true a1, Nat.le_of_ble_eq_true a2, Nat.le_of_ble_eq_true a3, Nat.eq_of_beq_eq_true a4, own_ob_or a5, own_ob_or a6, own_ob_or a7, own_ob_or a8, own_ob_or a9, own_ob_or a10⟩
theorem own_fin : ∀ (R : Fin 4) (g0 g1 g2 : Bool) (t0 t1 t2 : Fin 3), R.val ≤ own_b g0 + own_b g1 + own_b g2 → own_gB g0 g1 g2 t0.val t1.val t2.val R.val (own_run g0 g1 g2 t0.val t1.val t2.val R.val) = true := by decide +kernel
theorem own_fin' {R t0 t1 t2 : Nat} {g0 g1 g2 : Bool} (h0 : t0 ≤ 2) (h1 : t1 ≤ 2) (h2 : t2 ≤ 2) (h : R ≤ own_b g0 + own_b g1 + own_b g2) : own_good g0 g1 g2 t0 t1 t2 R (own_run g0 g1 g2 t0 t1 t2 R) := by
  have b : ∀ g, own_b g ≤ 1 := by decide
  have b0 := b g0
  have b1 := b g1
  have b2 := b g2
  exact own_gB_of (own_fin ⟨R, by omega⟩ g0 g1 g2 ⟨t0, by omega⟩ ⟨t1, by omega⟩ ⟨t2, by omega⟩ h)
def own_g (L l : Int) : Bool := decide (L < l)
theorem own_lvl {l0 l1 l2 P O L : Int} (p0 : 0 ≤ l0) (p1 : 0 ≤ l1) (p2 : 0 ≤ l2) (hO : O = min P (l0 + l1 + l2)) (hL : 0 ≤ L) (hf : min l0 L + min l1 L + min l2 L ≤ O) (hx : L = O ∨ O < min l0 (L + 1) + min l1 (L + 1) + min l2 (L + 1)) :
    O - (min l0 L + min l1 L + min l2 L) ≤ ((own_b (own_g L l0) + own_b (own_g L l1) + own_b (own_g L l2) : Nat) : Int) := by
  have e : ∀ l : Int, (own_b (own_g L l) : Int) = if L < l then 1 else 0 := by
    intro l
    unfold own_b own_g
    by_cases q : L < l <;> simp [q]
  have e0 := e l0; have e1 := e l1; have e2 := e l2
  omega
abbrev own_mn (x y : Int32) : Int32 := if y < x then y else x
theorem own_mn_i (x y : Int32) : (own_mn x y).toInt = min x.toInt y.toInt := by
  unfold own_mn
  split <;> rename_i h <;> rw [Int32.lt_iff_toInt_lt] at h <;> omega
def own_pair (i j : Nat) (si sj li lj hi ri hj rj : Int) : Prop := (li ≤ si ∨ sj ≤ si + 1) ∧ (si = sj + 1 → sj < lj → own_st hi ri sj < own_st hj rj sj ∨ (own_st hi ri sj = own_st hj rj sj ∧ i < j))
theorem own_pair_of {i j ei ej : Nat} {li lj hi ri hj rj L : Int} (ki : ei ≤ own_b (own_g L li)) (kj : ej ≤ own_b (own_g L lj)) (ho : own_or i j ei ej (own_st hi ri L) (own_st hj rj L) (own_g L lj)) : own_pair i j (min li L + (ei : Int)) (min lj L + (ej : Int)) li lj hi ri hj rj := by
  have e : ∀ l : Int, own_b (own_g L l) ≤ 1 ∧ (¬ L < l → own_b (own_g L l) = 0) := by
    intro l
    unfold own_b own_g
    by_cases q : L < l <;> simp [q]
  have e1 := e li
  have e2 := e lj
  refine ⟨by omega, fun h1 h2 => ?_⟩
  have hL : min lj L + (ej : Int) = L := by omega
  rw [hL]
  exact ho (by omega) (by omega) (by unfold own_g; simp; omega)
variable {Z : State} {a0 : Array Value} {n0 : Nat}
theorem own_S (hw : ∀ d ∈ tables_1, d.before a0 Z = true) : ∀ a ∈ Bundle.stringAtoms, a.before a0 Z = true := by
  intro d hd
  simp only [Bundle.stringAtoms, List.mem_cons, List.not_mem_nil, or_false] at hd
  rcases hd with rfl | rfl | rfl | rfl | rfl | rfl | rfl
  · exact hw _ (List.mem_of_getElem? (i := 11) rfl)
  · exact hw _ (List.mem_of_getElem? (i := 12) rfl)
  · exact hw _ (List.mem_of_getElem? (i := 13) rfl)
  · exact hw _ (List.mem_of_getElem? (i := 14) rfl)
  · exact hw _ (List.mem_of_getElem? (i := 15) rfl)
  · exact hw _ (List.mem_of_getElem? (i := 16) rfl)
  · exact hw _ (List.mem_of_getElem? (i := 17) rfl)
theorem own_last (H : List GObj) (x : GObj) : (H ++ [x])[H.length]? = some x := by simp
theorem own_setlast (H : List GObj) (x y : GObj) : (H ++ [x]).set H.length y = H ++ [y] := by simp
theorem own_at2 (H : List GObj) (X Y : GObj) : (H ++ [X] ++ [Y])[H.length + 1]? = some Y := by
  have e : H.length + 1 = (H ++ [X]).length := by simp
  rw [e]; exact own_last _ _
theorem own_app {H : List GObj} {k : Nat} {x : GObj} (y : List GObj) (h : H[k]? = some x) : (H ++ y)[k]? = some x := by
  rw [List.getElem?_append_left (List.getElem?_eq_some_iff.mp h).1]; exact h
theorem cmp_gt (x y : Int64) : 0 < XT.cmpL x y ↔ y.toInt < x.toInt := by
  unfold XT.cmpL
  rw [← Int64.lt_iff_toInt_lt]
  split
  · rename_i h; exact ⟨fun _ => h, fun _ => by decide⟩
  · rename_i h
    refine ⟨fun q => ?_, fun q => absurd q h⟩
    exact absurd q (by split <;> decide)
theorem cmp_eq (x y : Int64) : XT.cmpL x y = 0 ↔ x.toInt = y.toInt := by
  unfold XT.cmpL
  rw [Int64.toInt_inj]
  split
  · rename_i h
    refine ⟨fun q => absurd q (by decide), fun q => ?_⟩
    subst q
    exact absurd h (by simp)
  · split
    · rename_i h; exact ⟨fun _ => h, fun _ => rfl⟩
    · rename_i h; exact ⟨fun q => absurd q (by decide), fun q => absurd q h⟩
theorem own_l2 (x y : Int32) : (x.toInt64 + y.toInt64).toInt = x.toInt + y.toInt := by
  have h1 := c_ladd x.toInt64 y.toInt64
  have h2 := rng64 (x.toInt64 + y.toInt64)
  have h3 := rng32 x
  have h4 := rng32 y
  rw [c_i2l, c_i2l] at h1
  omega
theorem own_l3 (x y z : Int32) : (x.toInt64 + y.toInt64 + z.toInt64).toInt = x.toInt + y.toInt + z.toInt := by
  have h0 := own_l2 x y
  have h1 := c_ladd (x.toInt64 + y.toInt64) z.toInt64
  have h2 := rng64 (x.toInt64 + y.toInt64 + z.toInt64)
  have h3 := rng32 x
  have h4 := rng32 y
  have h5 := rng32 z
  rw [c_i2l, h0] at h1
  omega
theorem own_inc (m : Int32) (e : Nat) : m + Int32.ofNat e + 1 = m + Int32.ofNat (e + 1) := by
  rw [Int32.ofNat_add, Int32.add_assoc]; rfl
theorem own_stI {a b : Nat} (ha : a ≤ 2) (hb : b ≤ 2) : (Int32.ofNat a < Int32.ofNat b ↔ a < b) ∧ (Int32.ofNat a = Int32.ofNat b ↔ a = b) := by
  rcases (by omega : a = 0 ∨ a = 1 ∨ a = 2) with rfl | rfl | rfl <;> rcases (by omega : b = 0 ∨ b = 1 ∨ b = 2) with rfl | rfl | rfl <;> decide
theorem met1 (hw : ∀ d ∈ tables_1, d.before a0 Z = true) (x y : Int64) (H : List GObj) : Met Z a0 n0 M1 0 0 0 0 [.long x, .long y] H (fun v H' => (∃ r : Int64, v = some (.long r) ∧ r.toInt = min x.toInt y.toInt) ∧ H' = H) := by
  refine MetW.intro [.val (.long x), .second, .val (.long y), .second] pn1 rfl ?_
  refine go_lloadN i1_0 rfl ?_
  refine go_lloadN i1_1 rfl ?_
  refine go_lcmp i1_2 ?_
  refine go_if_gt 10 i1_3 (by decide) (fun h => ?_) (fun h => ?_)
  · rw [cmp_gt] at h
    refine go_lloadN i1_10 rfl ?_
    refine go_lreturn i1_11 rfl (by first | decide | exact Nat.le_of_ble_eq_true rfl | (simp only [room_1]; omega)) (by first | decide | exact Nat.le_of_ble_eq_true rfl | (simp only [room_1]; omega)) ?_
    exact ⟨⟨_, rfl, by omega⟩, rfl⟩
  · rw [cmp_gt] at h
    refine go_lloadN i1_6 rfl ?_
    refine go_goto 11 i1_7 (by decide) ?_
    refine go_lreturn i1_11 rfl (by first | decide | exact Nat.le_of_ble_eq_true rfl | (simp only [room_1]; omega)) (by first | decide | exact Nat.le_of_ble_eq_true rfl | (simp only [room_1]; omega)) ?_
    exact ⟨⟨_, rfl, by omega⟩, rfl⟩
theorem met6 (hw : ∀ d ∈ tables_1, d.before a0 Z = true) (x y : Int32) (H : List GObj) : Met Z a0 n0 M6 0 0 0 0 [.int x, .int y] H (Eq1 (.int (own_mn x y)) H) := by
  refine MetW.intro [.val (.int x), .val (.int y)] pn6 rfl ?_
  refine go_iloadN i6_0 rfl ?_
  refine go_iloadN i6_1 rfl ?_
  refine go_icmp_gt 9 i6_2 (by decide) (fun h => ?_) (fun h => ?_)
  · refine go_iloadN i6_9 rfl ?_
    refine go_ireturn i6_10 rfl rfl (Or.inl rfl) (by first | decide | exact Nat.le_of_ble_eq_true rfl | (simp only [room_1]; omega)) (by first | decide | exact Nat.le_of_ble_eq_true rfl | (simp only [room_1]; omega)) ?_
    exact ⟨by rw [own_mn, if_pos h], rfl⟩
  · refine go_iloadN i6_5 rfl ?_
    refine go_goto 10 i6_6 (by decide) ?_
    refine go_ireturn i6_10 rfl rfl (Or.inl rfl) (by first | decide | exact Nat.le_of_ble_eq_true rfl | (simp only [room_1]; omega)) (by first | decide | exact Nat.le_of_ble_eq_true rfl | (simp only [room_1]; omega)) ?_
    exact ⟨by rw [own_mn, if_neg h], rfl⟩
theorem met3 (hw : ∀ d ∈ tables_1, d.before a0 Z = true) (x a : Addr) (H : List GObj) : Met Z a0 n0 M3 0 0 0 0 [.ref x, .ref a] H (Eq1 (.ref x) H) := by
  refine MetW.intro [.val (.ref x), .val (.ref a)] pn3 rfl ?_
  refine go_aloadN i3_0 rfl ?_
  refine go_ifnonnull 13 i3_1 (by decide) ?_
  refine go_aloadN i3_13 rfl ?_
  refine go_areturn i3_14 rfl rfl rfl rfl (by first | decide | exact Nat.le_of_ble_eq_true rfl | (simp only [room_1]; omega)) (by first | decide | exact Nat.le_of_ble_eq_true rfl | (simp only [room_1]; omega)) ?_
  exact ⟨rfl, rfl⟩
theorem met9 (hw : ∀ d ∈ tables_1, d.before a0 Z = true) (h r lv : Int32) (H : List GObj) : Met Z a0 n0 M9 0 0 0 0 [.int h, .int r, .int lv] H (Eq1 (.int (Int32.ofNat (own_st h.toInt r.toInt lv.toInt))) H) := by
  refine MetW.intro [.val (.int h), .val (.int r), .val (.int lv), .unset] pn9 rfl ?_
  refine go_iconst (v := (2 : Int32)) i9_0 (by decide) ?_
  refine go_istore3 i9_1 (by first | exact One.u | exact One.val rfl) ?_
  refine go_iloadN i9_2 rfl ?_
  refine go_iloadN i9_3 rfl ?_
  refine go_icmp_le 12 i9_4 (by decide) (fun g => ?_) (fun g => ?_)
  · rw [Int32.lt_iff_toInt_lt] at g
    refine go_iloadN i9_12 rfl ?_
    refine go_i2l i9_13 ?_
    refine go_iloadN i9_14 rfl ?_
    refine go_i2l i9_15 ?_
    refine go_ladd i9_16 ?_
    refine go_iloadN i9_17 rfl ?_
    refine go_i2l i9_18 ?_
    refine go_lcmp i9_19 ?_
    refine go_if_le 25 i9_20 (by decide) (fun g2 => ?_) (fun g2 => ?_)
    · rw [cmp_gt, own_l2, c_i2l] at g2
      refine go_iloadN i9_25 rfl ?_
      refine go_ireturn i9_26 rfl rfl (Or.inl rfl) (by first | decide | exact Nat.le_of_ble_eq_true rfl | (simp only [room_1]; omega)) (by first | decide | exact Nat.le_of_ble_eq_true rfl | (simp only [room_1]; omega)) ?_
      exact ⟨by rw [own_st, if_neg g, if_neg g2]; rfl, rfl⟩
    · rw [cmp_gt, own_l2, c_i2l] at g2
      refine go_iconst (v := (1 : Int32)) i9_23 (by decide) ?_
      refine go_istore3 i9_24 (by first | exact One.u | exact One.val rfl) ?_
      refine go_iloadN i9_25 rfl ?_
      refine go_ireturn i9_26 rfl rfl (Or.inl rfl) (by first | decide | exact Nat.le_of_ble_eq_true rfl | (simp only [room_1]; omega)) (by first | decide | exact Nat.le_of_ble_eq_true rfl | (simp only [room_1]; omega)) ?_
      exact ⟨by rw [own_st, if_neg g, if_pos g2]; rfl, rfl⟩
  · rw [Int32.lt_iff_toInt_lt] at g
    refine go_iconst (v := (0 : Int32)) i9_7 (by decide) ?_
    refine go_istore3 i9_8 (by first | exact One.u | exact One.val rfl) ?_
    refine go_goto 25 i9_9 (by decide) ?_
    refine go_iloadN i9_25 rfl ?_
    refine go_ireturn i9_26 rfl rfl (Or.inl rfl) (by first | decide | exact Nat.le_of_ble_eq_true rfl | (simp only [room_1]; omega)) (by first | decide | exact Nat.le_of_ble_eq_true rfl | (simp only [room_1]; omega)) ?_
    exact ⟨by rw [own_st, if_pos g]; rfl, rfl⟩
theorem met10 (hw : ∀ d ∈ tables_1, d.before a0 Z = true) (h r lv : Int32) (H : List GObj) : Met Z a0 n0 M10 0 0 0 0 [.int h, .int r, .int lv] H (Eq1 (.int (Int32.ofNat (own_st h.toInt r.toInt lv.toInt))) H) := by
  refine MetW.intro [.val (.int h), .val (.int r), .val (.int lv)] pn10 rfl ?_
  refine go_iloadN i10_0 rfl ?_
  refine go_iloadN i10_1 rfl ?_
  refine go_icmp_le 7 i10_2 (by decide) (fun g => ?_) (fun g => ?_)
  · rw [Int32.lt_iff_toInt_lt] at g
    refine go_iloadN i10_7 rfl ?_
    refine go_i2l i10_8 ?_
    refine go_iloadN i10_9 rfl ?_
    refine go_i2l i10_10 ?_
    refine go_ladd i10_11 ?_
    refine go_iloadN i10_12 rfl ?_
    refine go_i2l i10_13 ?_
    refine go_lcmp i10_14 ?_
    refine go_if_le 20 i10_15 (by decide) (fun g2 => ?_) (fun g2 => ?_)
    · rw [cmp_gt, own_l2, c_i2l] at g2
      refine go_iconst (v := (2 : Int32)) i10_20 (by decide) ?_
      refine go_ireturn i10_21 rfl rfl (Or.inl rfl) (by first | decide | exact Nat.le_of_ble_eq_true rfl | (simp only [room_1]; omega)) (by first | decide | exact Nat.le_of_ble_eq_true rfl | (simp only [room_1]; omega)) ?_
      exact ⟨by rw [own_st, if_neg g, if_neg g2]; rfl, rfl⟩
    · rw [cmp_gt, own_l2, c_i2l] at g2
      refine go_iconst (v := (1 : Int32)) i10_18 (by decide) ?_
      refine go_ireturn i10_19 rfl rfl (Or.inl rfl) (by first | decide | exact Nat.le_of_ble_eq_true rfl | (simp only [room_1]; omega)) (by first | decide | exact Nat.le_of_ble_eq_true rfl | (simp only [room_1]; omega)) ?_
      exact ⟨by rw [own_st, if_neg g, if_pos g2]; rfl, rfl⟩
  · rw [Int32.lt_iff_toInt_lt] at g
    refine go_iconst (v := (0 : Int32)) i10_5 (by decide) ?_
    refine go_ireturn i10_6 rfl rfl (Or.inl rfl) (by first | decide | exact Nat.le_of_ble_eq_true rfl | (simp only [room_1]; omega)) (by first | decide | exact Nat.le_of_ble_eq_true rfl | (simp only [room_1]; omega)) ?_
    exact ⟨by rw [own_st, if_pos g]; rfl, rfl⟩
theorem met7 (hw : ∀ d ∈ tables_1, d.before a0 Z = true) (H : List GObj) (ka kb : Nat) (us vs : List Value) (i s l : Int32) (I : Nat) (hi : i.toInt = (I : Int)) (ha : H[ka]? = some (.inr (.int, us))) (hb : H[kb]? = some (.inr (.int, vs))) (es : us[I]? = some (.int s)) (el : vs[I]? = some (.int l)) (h0 : 0 ≤ s.toInt) (h1 : s.toInt ≤ l.toInt) : Met Z a0 n0 M7 0 0 0 0 [.ref (n0 + ka), .ref (n0 + kb), .int i] H (Eq1 (.int 1) H) := by
  refine MetW.intro [.val (.ref (n0 + ka)), .val (.ref (n0 + kb)), .val (.int i)] pn7 rfl ?_
  have z0 : (0 : Int32).toInt = 0 := by decide
  refine go_aloadN i7_0 rfl ?_
  refine go_iloadN i7_1 rfl ?_
  refine go_iaload i7_2 ha hi es ?_
  refine go_ifF i7_3 ((if0 _ _).trans ((hold_lt _ _).2.mpr (by rw [Int32.lt_iff_toInt_lt, z0]; omega))) ?_
  refine go_aloadN i7_6 rfl ?_
  refine go_iloadN i7_7 rfl ?_
  refine go_iaload i7_8 ha hi es ?_
  refine go_aloadN i7_9 rfl ?_
  refine go_iloadN i7_10 rfl ?_
  refine go_iaload i7_11 hb hi el ?_
  refine go_icmpF i7_12 ((hold_gt _ _).2.mpr (by rw [Int32.lt_iff_toInt_lt]; omega)) ?_
  refine go_iconst (v := (1 : Int32)) i7_15 (by decide) ?_
  refine go_goto 20 i7_16 (by decide) ?_
  refine go_ireturn i7_20 rfl rfl (Or.inr (Or.inl rfl)) (by first | decide | exact Nat.le_of_ble_eq_true rfl | (simp only [room_1]; omega)) (by first | decide | exact Nat.le_of_ble_eq_true rfl | (simp only [room_1]; omega)) ?_
  exact ⟨rfl, rfl⟩
theorem met8 (hw : ∀ d ∈ tables_1, d.before a0 Z = true) (H : List GObj) (ka kb kh kr : Nat) (us vs hs rs : List Value) (i j si sj li lj hi ri hj rj : Int32) (I J : Nat) (hI : i.toInt = (I : Int)) (hJ : j.toInt = (J : Int)) (ha : H[ka]? = some (.inr (.int, us))) (hb : H[kb]? = some (.inr (.int, vs))) (hh : H[kh]? = some (.inr (.int, hs))) (hr : H[kr]? = some (.inr (.int, rs)))
    (e1 : us[I]? = some (.int si)) (e2 : us[J]? = some (.int sj)) (e3 : vs[I]? = some (.int li)) (e4 : vs[J]? = some (.int lj)) (e5 : hs[I]? = some (.int hi)) (e6 : hs[J]? = some (.int hj)) (e7 : rs[I]? = some (.int ri)) (e8 : rs[J]? = some (.int rj)) (hp : own_pair I J si.toInt sj.toInt li.toInt lj.toInt hi.toInt ri.toInt hj.toInt rj.toInt) :
    Met Z a0 n0 M8 1 14 0 0 [.ref (n0 + ka), .ref (n0 + kb), .ref (n0 + kh), .ref (n0 + kr), .int i, .int j] H (Eq1 (.int 1) H) := by
  refine MetW.intro [.val (.ref (n0 + ka)), .val (.ref (n0 + kb)), .val (.ref (n0 + kh)), .val (.ref (n0 + kr)), .val (.int i), .val (.int j), .unset, .unset, .unset, .unset, .unset] pn8 rfl ?_
  obtain ⟨hf, ho⟩ := hp
  have o1 : (1 : Int64).toInt = 1 := by decide
  have a1 : ∀ x : Int32, (x.toInt64 + 1).toInt = x.toInt + 1 := by
    intro x
    have h1 := c_ladd x.toInt64 1
    have h2 := rng64 (x.toInt64 + 1)
    have h3 := rng32 x
    rw [c_i2l, o1] at h1
    omega
  have fin : ∀ s8 s9 s10 : Slot, Go Z a0 n0 M8 { frames := 1, cells := 0, slots := 0, locals := 14 } (Eq1 (.int 1) H) 128 [.val (.ref (n0 + ka)), .val (.ref (n0 + kb)), .val (.ref (n0 + kh)), .val (.ref (n0 + kr)), .val (.int i), .val (.int j), .val (.int 1), .val (.int 1), s8, s9, s10] [] H 0 0 := by
    intro s8 s9 s10
    refine go_iload i8_128 rfl ?_
    refine go_ifF i8_130 (by decide) ?_
    refine go_iload i8_133 rfl ?_
    refine go_ifF i8_135 (by decide) ?_
    refine go_iconst (v := (1 : Int32)) i8_138 (by decide) ?_
    refine go_goto 143 i8_139 (by decide) ?_
    refine go_ireturn i8_143 rfl rfl (Or.inr (Or.inl rfl)) (by first | decide | exact Nat.le_of_ble_eq_true rfl | (simp only [room_1]; omega)) (by first | decide | exact Nat.le_of_ble_eq_true rfl | (simp only [room_1]; omega)) ?_
    exact ⟨rfl, rfl⟩
  have mid : Go Z a0 n0 M8 { frames := 1, cells := 0, slots := 0, locals := 14 } (Eq1 (.int 1) H) 27 [.val (.ref (n0 + ka)), .val (.ref (n0 + kb)), .val (.ref (n0 + kh)), .val (.ref (n0 + kr)), .val (.int i), .val (.int j), .unset, .unset, .unset, .unset, .unset] [] H 0 0 := by
    refine go_iconst (v := (1 : Int32)) i8_27 (by decide) ?_
    refine go_goto 32 i8_28 (by decide) ?_
    refine go_istore6 i8_32 (by first | exact One.u | exact One.val rfl) ?_
    refine go_iconst (v := (1 : Int32)) i8_34 (by decide) ?_
    refine go_istore7 i8_35 (by first | exact One.u | exact One.val rfl) ?_
    refine go_aloadN i8_37 rfl ?_
    refine go_iload i8_38 rfl ?_
    refine go_iaload i8_40 ha hI e1 ?_
    refine go_i2l i8_41 ?_
    refine go_aloadN i8_42 rfl ?_
    refine go_iload i8_43 rfl ?_
    refine go_iaload i8_45 ha hJ e2 ?_
    refine go_i2l i8_46 ?_
    refine go_lconst (v := (1 : Int64)) i8_47 (by decide) ?_
    refine go_ladd i8_48 ?_
    refine go_lcmp i8_49 ?_
    refine go_if_ne 128 i8_50 (by decide) (fun g => ?_) (fun g => ?_)
    · exact fin _ _ _
    rw [cmp_eq, a1, c_i2l] at g
    refine go_aloadN i8_53 rfl ?_
    refine go_iload i8_54 rfl ?_
    refine go_iaload i8_56 ha hJ e2 ?_
    refine go_aloadN i8_57 rfl ?_
    refine go_iload i8_58 rfl ?_
    refine go_iaload i8_60 hb hJ e4 ?_
    refine go_icmp_ge 128 i8_61 (by decide) (fun g2 => ?_) (fun g2 => ?_)
    · exact fin _ _ _
    rw [Int32.lt_iff_toInt_lt] at g2
    have hq := ho g g2
    have q := own_stI (own_st_le hi.toInt ri.toInt sj.toInt) (own_st_le hj.toInt rj.toInt sj.toInt)
    refine go_aloadN i8_64 rfl ?_
    refine go_iload i8_65 rfl ?_
    refine go_iaload i8_67 ha hJ e2 ?_
    refine go_istore8 i8_68 (by first | exact One.u | exact One.val rfl) ?_
    refine go_aloadN i8_70 rfl ?_
    refine go_iload i8_71 rfl ?_
    refine go_iaload i8_73 hh hI e5 ?_
    refine go_aloadN i8_74 rfl ?_
    refine go_iload i8_75 rfl ?_
    refine go_iaload i8_77 hr hI e7 ?_
    refine go_iload i8_78 rfl ?_
    refine go_static i8_80 (met10 hw hi ri sj H) (hw _ (List.mem_of_getElem? (i := 44) rfl)) (hw _ (List.mem_of_getElem? (i := 45) rfl)) (hw _ (List.mem_of_getElem? (i := 36) rfl)) (hw _ (List.mem_of_getElem? (i := 46) rfl)) rfl pd10 rfl rfl rfl (by first | decide | exact Nat.le_of_ble_eq_true rfl | (simp only [room_1]; omega)) (by first | decide | exact Nat.le_of_ble_eq_true rfl | (simp only [room_1]; omega)) (by first | decide | exact Nat.le_of_ble_eq_true rfl | (simp only [room_1]; omega)) (by first | decide | exact Nat.le_of_ble_eq_true rfl | (simp only [room_1]; omega)) (retE rfl ?_)
    refine go_istore9 i8_83 (by first | exact One.u | exact One.val rfl) ?_
    refine go_aloadN i8_85 rfl ?_
    refine go_iload i8_86 rfl ?_
    refine go_iaload i8_88 hh hJ e6 ?_
    refine go_aloadN i8_89 rfl ?_
    refine go_iload i8_90 rfl ?_
    refine go_iaload i8_92 hr hJ e8 ?_
    refine go_iload i8_93 rfl ?_
    refine go_static i8_95 (met10 hw hj rj sj H) (hw _ (List.mem_of_getElem? (i := 44) rfl)) (hw _ (List.mem_of_getElem? (i := 45) rfl)) (hw _ (List.mem_of_getElem? (i := 36) rfl)) (hw _ (List.mem_of_getElem? (i := 46) rfl)) rfl pd10 rfl rfl rfl (by first | decide | exact Nat.le_of_ble_eq_true rfl | (simp only [room_1]; omega)) (by first | decide | exact Nat.le_of_ble_eq_true rfl | (simp only [room_1]; omega)) (by first | decide | exact Nat.le_of_ble_eq_true rfl | (simp only [room_1]; omega)) (by first | decide | exact Nat.le_of_ble_eq_true rfl | (simp only [room_1]; omega)) (retE rfl ?_)
    refine go_istore10 i8_98 (by first | exact One.u | exact One.val rfl) ?_
    refine go_iload i8_100 rfl ?_
    refine go_iload i8_102 rfl ?_
    refine go_icmp_lt 121 i8_104 (by decide) (fun g3 => ?_) (fun g3 => ?_)
    · refine go_iconst (v := (1 : Int32)) i8_121 (by decide) ?_
      refine go_goto 126 i8_122 (by decide) ?_
      refine go_istore7 i8_126 (by first | exact One.u | exact One.val rfl) ?_
      exact fin _ _ _
    rw [q.1] at g3
    have hq2 : own_st hi.toInt ri.toInt sj.toInt = own_st hj.toInt rj.toInt sj.toInt ∧ I < J := hq.resolve_left g3
    refine go_iload i8_107 rfl ?_
    refine go_iload i8_109 rfl ?_
    refine go_icmpF i8_111 ((hold_ne _ _).2.mpr (q.2.mpr hq2.1)) ?_
    refine go_iload i8_114 rfl ?_
    refine go_iload i8_116 rfl ?_
    refine go_icmpF i8_118 ((hold_ge _ _).2.mpr (by rw [Int32.lt_iff_toInt_lt]; omega)) ?_
    refine go_iconst (v := (1 : Int32)) i8_121 (by decide) ?_
    refine go_goto 126 i8_122 (by decide) ?_
    refine go_istore7 i8_126 (by first | exact One.u | exact One.val rfl) ?_
    exact fin _ _ _
  refine go_aloadN i8_0 rfl ?_
  refine go_iload i8_1 rfl ?_
  refine go_iaload i8_3 ha hI e1 ?_
  refine go_aloadN i8_4 rfl ?_
  refine go_iload i8_5 rfl ?_
  refine go_iaload i8_7 hb hI e3 ?_
  refine go_icmp_ge 27 i8_8 (by decide) (fun g => ?_) (fun g => ?_)
  · exact mid
  rw [Int32.lt_iff_toInt_lt] at g
  refine go_aloadN i8_11 rfl ?_
  refine go_iload i8_12 rfl ?_
  refine go_iaload i8_14 ha hJ e2 ?_
  refine go_i2l i8_15 ?_
  refine go_aloadN i8_16 rfl ?_
  refine go_iload i8_17 rfl ?_
  refine go_iaload i8_19 ha hI e1 ?_
  refine go_i2l i8_20 ?_
  refine go_lconst (v := (1 : Int64)) i8_21 (by decide) ?_
  refine go_ladd i8_22 ?_
  refine go_lcmp i8_23 ?_
  refine go_ifF i8_24 ((if0 _ _).trans ((hold_gt _ _).2.mpr (by rw [cmp_gt, a1, c_i2l]; omega))) ?_
  exact mid
abbrev own_fil (l0 l1 l2 x : Int) : Int := min l0 x + min l1 x + min l2 x
theorem met5 (hw : ∀ d ∈ tables_1, d.before a0 Z = true) (H : List GObj) (k : Nat) (l0 l1 l2 x : Int32) (hl : H[k]? = some (.inr (.int, [.int l0, .int l1, .int l2]))) : Met Z a0 n0 M5 1 15 0 0 [.ref (n0 + k), .int x] H (fun v H' => (∃ r : Int64, v = some (.long r) ∧ r.toInt = own_fil l0.toInt l1.toInt l2.toInt x.toInt) ∧ H' = H) := by
  refine MetW.intro [.val (.ref (n0 + k)), .val (.int x), .unset, .unset, .unset, .unset, .unset, .unset] pn5 rfl ?_
  refine go_lconst (v := (0 : Int64)) i5_0 (by decide) ?_
  refine go_lstore2 i5_1 (by first | exact Or.inl ⟨One.u, One.u⟩ | exact Or.inr ⟨_, rfl, rfl⟩ | exact Or.inl ⟨One.val rfl, One.u⟩ | exact Or.inl ⟨One.u, One.val rfl⟩ | exact Or.inl ⟨One.val rfl, One.val rfl⟩) ?_
  refine go_aloadN i5_2 rfl ?_
  refine go_astore4 i5_3 (by first | exact One.u | exact One.val rfl) ?_
  refine go_aload i5_5 rfl ?_
  refine go_arraylength i5_7 hl (n := 3) rfl ?_
  refine go_istore5 i5_8 (by first | exact One.u | exact One.val rfl) ?_
  refine go_iconst (v := (0 : Int32)) i5_10 (by decide) ?_
  refine go_istore6 i5_11 (by first | exact One.u | exact One.val rfl) ?_
  refine go_iload i5_13 rfl ?_
  refine go_iload i5_15 rfl ?_
  refine go_icmpF i5_17 (by decide) ?_
  refine go_aload i5_20 rfl ?_
  refine go_iload i5_22 rfl ?_
  refine go_iaload i5_24 hl (i := 0) (by decide) rfl ?_
  refine go_istore7 i5_25 (by first | exact One.u | exact One.val rfl) ?_
  refine go_lloadN i5_27 rfl ?_
  refine go_iload i5_28 rfl ?_
  refine go_iloadN i5_30 rfl ?_
  refine go_static i5_31 (met6 hw _ _ H) (hw _ (List.mem_of_getElem? (i := 31) rfl)) (hw _ (List.mem_of_getElem? (i := 32) rfl)) (hw _ (List.mem_of_getElem? (i := 4) rfl)) (hw _ (List.mem_of_getElem? (i := 33) rfl)) rfl pd6 rfl rfl rfl (by first | decide | exact Nat.le_of_ble_eq_true rfl | (simp only [room_1]; omega)) (by first | decide | exact Nat.le_of_ble_eq_true rfl | (simp only [room_1]; omega)) (by first | decide | exact Nat.le_of_ble_eq_true rfl | (simp only [room_1]; omega)) (by first | decide | exact Nat.le_of_ble_eq_true rfl | (simp only [room_1]; omega)) (retE rfl ?_)
  refine go_i2l i5_34 ?_
  refine go_ladd i5_35 ?_
  refine go_lstore2 i5_36 (by first | exact Or.inl ⟨One.u, One.u⟩ | exact Or.inr ⟨_, rfl, rfl⟩ | exact Or.inl ⟨One.val rfl, One.u⟩ | exact Or.inl ⟨One.u, One.val rfl⟩ | exact Or.inl ⟨One.val rfl, One.val rfl⟩) ?_
  refine go_iinc6 (v := 1) i5_37  (by decide) ?_
  refine go_goto 13 i5_40 (by decide) ?_
  refine go_iload i5_13 rfl ?_
  refine go_iload i5_15 rfl ?_
  refine go_icmpF i5_17 (by decide) ?_
  refine go_aload i5_20 rfl ?_
  refine go_iload i5_22 rfl ?_
  refine go_iaload i5_24 hl (i := 1) (by decide) rfl ?_
  refine go_istore7 i5_25 (by first | exact One.u | exact One.val rfl) ?_
  refine go_lloadN i5_27 rfl ?_
  refine go_iload i5_28 rfl ?_
  refine go_iloadN i5_30 rfl ?_
  refine go_static i5_31 (met6 hw _ _ H) (hw _ (List.mem_of_getElem? (i := 31) rfl)) (hw _ (List.mem_of_getElem? (i := 32) rfl)) (hw _ (List.mem_of_getElem? (i := 4) rfl)) (hw _ (List.mem_of_getElem? (i := 33) rfl)) rfl pd6 rfl rfl rfl (by first | decide | exact Nat.le_of_ble_eq_true rfl | (simp only [room_1]; omega)) (by first | decide | exact Nat.le_of_ble_eq_true rfl | (simp only [room_1]; omega)) (by first | decide | exact Nat.le_of_ble_eq_true rfl | (simp only [room_1]; omega)) (by first | decide | exact Nat.le_of_ble_eq_true rfl | (simp only [room_1]; omega)) (retE rfl ?_)
  refine go_i2l i5_34 ?_
  refine go_ladd i5_35 ?_
  refine go_lstore2 i5_36 (by first | exact Or.inl ⟨One.u, One.u⟩ | exact Or.inr ⟨_, rfl, rfl⟩ | exact Or.inl ⟨One.val rfl, One.u⟩ | exact Or.inl ⟨One.u, One.val rfl⟩ | exact Or.inl ⟨One.val rfl, One.val rfl⟩) ?_
  refine go_iinc6 (v := 2) i5_37  (by decide) ?_
  refine go_goto 13 i5_40 (by decide) ?_
  refine go_iload i5_13 rfl ?_
  refine go_iload i5_15 rfl ?_
  refine go_icmpF i5_17 (by decide) ?_
  refine go_aload i5_20 rfl ?_
  refine go_iload i5_22 rfl ?_
  refine go_iaload i5_24 hl (i := 2) (by decide) rfl ?_
  refine go_istore7 i5_25 (by first | exact One.u | exact One.val rfl) ?_
  refine go_lloadN i5_27 rfl ?_
  refine go_iload i5_28 rfl ?_
  refine go_iloadN i5_30 rfl ?_
  refine go_static i5_31 (met6 hw _ _ H) (hw _ (List.mem_of_getElem? (i := 31) rfl)) (hw _ (List.mem_of_getElem? (i := 32) rfl)) (hw _ (List.mem_of_getElem? (i := 4) rfl)) (hw _ (List.mem_of_getElem? (i := 33) rfl)) rfl pd6 rfl rfl rfl (by first | decide | exact Nat.le_of_ble_eq_true rfl | (simp only [room_1]; omega)) (by first | decide | exact Nat.le_of_ble_eq_true rfl | (simp only [room_1]; omega)) (by first | decide | exact Nat.le_of_ble_eq_true rfl | (simp only [room_1]; omega)) (by first | decide | exact Nat.le_of_ble_eq_true rfl | (simp only [room_1]; omega)) (retE rfl ?_)
  refine go_i2l i5_34 ?_
  refine go_ladd i5_35 ?_
  refine go_lstore2 i5_36 (by first | exact Or.inl ⟨One.u, One.u⟩ | exact Or.inr ⟨_, rfl, rfl⟩ | exact Or.inl ⟨One.val rfl, One.u⟩ | exact Or.inl ⟨One.u, One.val rfl⟩ | exact Or.inl ⟨One.val rfl, One.val rfl⟩) ?_
  refine go_iinc6 (v := 3) i5_37  (by decide) ?_
  refine go_goto 13 i5_40 (by decide) ?_
  refine go_iload i5_13 rfl ?_
  refine go_iload i5_15 rfl ?_
  refine go_icmpT 43 i5_17 (by decide) (by decide) ?_
  refine go_lloadN i5_43 rfl ?_
  refine go_lreturn i5_44 rfl (by first | decide | exact Nat.le_of_ble_eq_true rfl | (simp only [room_1]; omega)) (by first | decide | exact Nat.le_of_ble_eq_true rfl | (simp only [room_1]; omega)) ?_
  have h := own_l3 (own_mn l0 x) (own_mn l1 x) (own_mn l2 x)
  rw [own_mn_i, own_mn_i, own_mn_i] at h
  exact ⟨⟨_, rfl, by rw [Int64.zero_add]; exact h⟩, rfl⟩
def own_lev (l0 l1 l2 O lv : Int) : Prop := 0 ≤ lv ∧ lv ≤ O ∧ own_fil l0 l1 l2 lv ≤ O ∧ (lv = O ∨ O < own_fil l0 l1 l2 (lv + 1))
theorem lp4 (hw : ∀ d ∈ tables_1, d.before a0 Z = true) (H : List GObj) (k : Nat) (l0 l1 l2 O : Int32) (hl : H[k]? = some (.inr (.int, [.int l0, .int l1, .int l2]))) (hO : O.toInt ≤ 2147483646) (n : Nat) : ∀ (lo hi : Int32) (s4 : Slot), One s4 → 0 ≤ lo.toInt → lo.toInt ≤ hi.toInt → hi.toInt ≤ O.toInt → own_fil l0.toInt l1.toInt l2.toInt lo.toInt ≤ O.toInt → (hi.toInt = O.toInt ∨ O.toInt < own_fil l0.toInt l1.toInt l2.toInt (hi.toInt + 1)) → (hi.toInt - lo.toInt).toNat ≤ n →
    Go Z a0 n0 M4 { frames := 2, cells := 0, slots := 0, locals := 34 } (fun v H' => (∃ lv : Int32, v = some (.int lv) ∧ own_lev l0.toInt l1.toInt l2.toInt O.toInt lv.toInt) ∧ H' = H) 4 [.val (.ref (n0 + k)), .val (.int O), .val (.int lo), .val (.int hi), s4] [] H 0 0 := by
  induction n with
  | zero =>
    intro lo hi s4 o4 h0 h1 h2 h3 h4 hn
    refine go_iloadN i4_4 rfl ?_
    refine go_iloadN i4_5 rfl ?_
    refine go_icmpT 46 i4_6 (by decide) ((hold_ge _ _).1.mpr (by rw [Int32.lt_iff_toInt_lt]; omega)) ?_
    refine go_iloadN i4_46 rfl ?_
    refine go_ireturn i4_47 rfl rfl (Or.inl rfl) (by first | decide | exact Nat.le_of_ble_eq_true rfl | (simp only [room_1]; omega)) (by first | decide | exact Nat.le_of_ble_eq_true rfl | (simp only [room_1]; omega)) ?_
    have e : lo.toInt = hi.toInt := by omega
    exact ⟨⟨lo, rfl, h0, by omega, h3, by rw [e]; exact h4⟩, rfl⟩
  | succ n ih =>
    intro lo hi s4 o4 h0 h1 h2 h3 h4 hn
    refine go_iloadN i4_4 rfl ?_
    refine go_iloadN i4_5 rfl ?_
    refine go_icmp_ge 46 i4_6 (by decide) (fun g1 => ?_) (fun g1 => ?_)
    · rw [Int32.lt_iff_toInt_lt] at g1
      refine go_iloadN i4_46 rfl ?_
      refine go_ireturn i4_47 rfl rfl (Or.inl rfl) (by first | decide | exact Nat.le_of_ble_eq_true rfl | (simp only [room_1]; omega)) (by first | decide | exact Nat.le_of_ble_eq_true rfl | (simp only [room_1]; omega)) ?_
      have e : lo.toInt = hi.toInt := by omega
      exact ⟨⟨lo, rfl, h0, by omega, h3, by rw [e]; exact h4⟩, rfl⟩
    rw [Int32.lt_iff_toInt_lt] at g1
    have c1 := c_isub hi lo
    have c2 := c_iadd (hi - lo) 1
    have r1 := rng32 (hi - lo)
    have r2 := rng32 (hi - lo + 1)
    have o1 : (1 : Int32).toInt = 1 := by decide
    rw [o1] at c2
    have q1 : (hi - lo).toInt = hi.toInt - lo.toInt := by omega
    have q2 : (hi - lo + 1).toInt = hi.toInt - lo.toInt + 1 := by omega
    have q3 := (c_idiv (hi - lo + 1) 2 2 (by decide) (by decide)).1 (by omega)
    have c3 := c_iadd lo ((hi - lo + 1) / 2)
    have r3 := rng32 (lo + (hi - lo + 1) / 2)
    have q4 : (lo + (hi - lo + 1) / 2).toInt = lo.toInt + (hi.toInt - lo.toInt + 1) / 2 := by omega
    refine go_iloadN i4_9 rfl ?_
    refine go_iloadN i4_10 rfl ?_
    refine go_iloadN i4_11 rfl ?_
    refine go_isub i4_12 ?_
    refine go_iconst (v := (1 : Int32)) i4_13 (by decide) ?_
    refine go_iadd i4_14 ?_
    refine go_iconst (v := (2 : Int32)) i4_15 (by decide) ?_
    refine go_idiv i4_16 (by decide) ?_
    refine go_iadd i4_17 ?_
    refine go_istore4 i4_18 o4 ?_
    refine go_aloadN i4_20 rfl ?_
    refine go_iload i4_21 rfl ?_
    generalize lo + (hi - lo + 1) / 2 = mid at *
    clear c1 c2 r1 r2 q1 q2 q3 c3
    refine go_static i4_23 (met5 hw H k l0 l1 l2 mid hl) (hw _ (List.mem_of_getElem? (i := 28) rfl)) (hw _ (List.mem_of_getElem? (i := 29) rfl)) (hw _ (List.mem_of_getElem? (i := 8) rfl)) (hw _ (List.mem_of_getElem? (i := 30) rfl)) rfl pd5 rfl rfl rfl (by first | decide | exact Nat.le_of_ble_eq_true rfl | (simp only [room_1]; omega)) (by first | decide | exact Nat.le_of_ble_eq_true rfl | (simp only [room_1]; omega)) (by first | decide | exact Nat.le_of_ble_eq_true rfl | (simp only [room_1]; omega)) (by first | decide | exact Nat.le_of_ble_eq_true rfl | (simp only [room_1]; omega)) ?_
    rintro _ _ ⟨⟨r, rfl, hr⟩, rfl⟩
    refine ⟨rfl, ?_⟩
    refine go_iloadN i4_26 rfl ?_
    refine go_i2l i4_27 ?_
    refine go_lcmp i4_28 ?_
    refine go_if_gt 38 i4_29 (by decide) (fun g2 => ?_) (fun g2 => ?_)
    · rw [cmp_gt, c_i2l, hr] at g2
      have c4 := c_isub mid 1
      have r4 := rng32 (mid - 1)
      rw [o1] at c4
      have q5 : (mid - 1).toInt = mid.toInt - 1 := by omega
      refine go_iload i4_38 rfl ?_
      refine go_iconst (v := (1 : Int32)) i4_40 (by decide) ?_
      refine go_isub i4_41 ?_
      refine go_istore3 i4_42 (by first | exact One.u | exact One.val rfl) ?_
      refine go_goto 4 i4_43 (by decide) ?_
      exact ih lo (mid - 1) _ (One.val rfl) h0 (by omega) (by omega) h3 (Or.inr (by rw [q5, Int.sub_add_cancel]; exact g2)) (by omega)
    · rw [cmp_gt, c_i2l, hr] at g2
      refine go_iload i4_32 rfl ?_
      refine go_istore2 i4_34 (by first | exact One.u | exact One.val rfl) ?_
      refine go_goto 43 i4_35 (by decide) ?_
      refine go_goto 4 i4_43 (by decide) ?_
      exact ih mid hi _ (One.val rfl) (by omega) (by omega) h2 (by omega) h4 (by omega)
theorem met4 (hw : ∀ d ∈ tables_1, d.before a0 Z = true) (H : List GObj) (k : Nat) (l0 l1 l2 O : Int32) (hl : H[k]? = some (.inr (.int, [.int l0, .int l1, .int l2]))) (p0 : 0 ≤ l0.toInt) (p1 : 0 ≤ l1.toInt) (p2 : 0 ≤ l2.toInt) (hO0 : 0 ≤ O.toInt) (hO : O.toInt ≤ 2147483646) : Met Z a0 n0 M4 2 34 0 0 [.ref (n0 + k), .int O] H (fun v H' => (∃ lv : Int32, v = some (.int lv) ∧ own_lev l0.toInt l1.toInt l2.toInt O.toInt lv.toInt) ∧ H' = H) := by
  refine MetW.intro [.val (.ref (n0 + k)), .val (.int O), .unset, .unset, .unset] pn4 rfl ?_
  have z0 : (0 : Int32).toInt = 0 := by decide
  refine go_iconst (v := (0 : Int32)) i4_0 (by decide) ?_
  refine go_istore2 i4_1 (by first | exact One.u | exact One.val rfl) ?_
  refine go_iloadN i4_2 rfl ?_
  refine go_istore3 i4_3 (by first | exact One.u | exact One.val rfl) ?_
  exact lp4 hw H k l0 l1 l2 O hl hO _ 0 O _ One.u (by decide) (by omega) (Int.le_refl _) (by rw [z0]; unfold own_fil; omega) (Or.inl rfl) (Nat.le_refl _)
abbrev own_R2 : Room := { frames := 3, cells := 8, slots := 86, locals := 50 }
def own_sp (P l0 l1 l2 h0 h1 h2 r0 r1 r2 s0 s1 s2 : Int) : Prop := s0 + s1 + s2 = min P (l0 + l1 + l2) ∧ (0 ≤ s0 ∧ s0 ≤ l0) ∧ (0 ≤ s1 ∧ s1 ≤ l1) ∧ (0 ≤ s2 ∧ s2 ≤ l2) ∧ own_pair 0 1 s0 s1 l0 l1 h0 r0 h1 r1 ∧ own_pair 1 0 s1 s0 l1 l0 h1 r1 h0 r0 ∧ own_pair 0 2 s0 s2 l0 l2 h0 r0 h2 r2 ∧ own_pair 2 0 s2 s0 l2 l0 h2 r2 h0 r0 ∧ own_pair 1 2 s1 s2 l1 l2 h1 r1 h2 r2 ∧ own_pair 2 1 s2 s1 l2 l1 h2 r2 h1 r1
abbrev own_lim (P c : Int32) : Int32 := if c = 0 then P else c
abbrev own_sh (m0 m1 m2 : Int32) (x : OS) : List Value := [.int (m0 + Int32.ofNat x.2.1), .int (m1 + Int32.ofNat x.2.2.1), .int (m2 + Int32.ofNat x.2.2.2)]
abbrev own_L2 (n0 kl ks : Nat) (Pa : Int32) (x : Int64) (O lv rem : Int32) (s11 s12 : Slot) : List Slot := [.val (.int Pa), .val (.ref (n0 + 0)), .val (.ref (n0 + 1)), .val (.ref (n0 + 2)), .val (.ref (n0 + kl)), .val (.long x), .second, .val (.int O), .val (.int lv), .val (.ref (n0 + ks)), .val (.int rem), s11, s12]
theorem own_z0 {x : OS} (h : x.1 = 0) (g : Bool) (t s : Nat) : own_t0 g t s x = x := by rw [own_t0, if_neg (by omega)]
theorem own_z1 {x : OS} (h : x.1 = 0) (g : Bool) (t s : Nat) : own_t1 g t s x = x := by rw [own_t1, if_neg (by omega)]
theorem own_z2 {x : OS} (h : x.1 = 0) (g : Bool) (t s : Nat) : own_t2 g t s x = x := by rw [own_t2, if_neg (by omega)]
theorem own_zr {x : OS} (h : x.1 = 0) (g0 g1 g2 : Bool) (t0 t1 t2 s : Nat) : own_rd g0 g1 g2 t0 t1 t2 s x = x := by rw [own_rd, own_z0 h, own_z1 h, own_z2 h]
section Steps
variable (Q : Option Value → List GObj → Prop) (H : List GObj) (kl : Nat) (Pa O lv : Int32) (xx : Int64) (l0 l1 l2 h0 h1 h2 r0 r1 r2 m0 m1 m2 : Int32) (ce : Nat)
theorem tn0 (hw : ∀ d ∈ tables_1, d.before a0 Z = true) (hh : H[1]? = some (.inr (.int, [.int h0, .int h1, .int h2]))) (hr : H[2]? = some (.inr (.int, [.int r0, .int r1, .int r2]))) (hl : H[kl]? = some (.inr (.int, [.int l0, .int l1, .int l2]))) (r t : Int32) (x : OS) (T : Nat) (hx : r.toInt = (x.1 : Int)) (ht : Int32.ofNat T = t) (hT : T ≤ 2) (hce : ce ≤ 8)
    (k : ∀ r' : Int32, r'.toInt = (((own_t0 (own_g lv.toInt l0.toInt) (own_st h0.toInt r0.toInt lv.toInt) T x)).1 : Int) → Go Z a0 n0 M2 { frames := 3, cells := 8, slots := 86, locals := 50 } Q 232 (own_L2 n0 kl H.length Pa xx O lv r' (.val (.int t)) (.val (.int 1))) [] (H ++ [.inr (.int, own_sh m0 m1 m2 (own_t0 (own_g lv.toInt l0.toInt) (own_st h0.toInt r0.toInt lv.toInt) T x))]) ce 86)
    (k' : x.1 = 0 → Go Z a0 n0 M2 { frames := 3, cells := 8, slots := 86, locals := 50 } Q 291 (own_L2 n0 kl H.length Pa xx O lv r (.val (.int t)) (.val (.int 0))) [] (H ++ [.inr (.int, own_sh m0 m1 m2 x)]) ce 86) : Go Z a0 n0 M2 { frames := 3, cells := 8, slots := 86, locals := 50 } Q 232 (own_L2 n0 kl H.length Pa xx O lv r (.val (.int t)) (.val (.int 0))) [] (H ++ [.inr (.int, own_sh m0 m1 m2 x)]) ce 86 := by
  have z0 : (0 : Int32).toInt = 0 := by decide
  have no : ((own_t0 (own_g lv.toInt l0.toInt) (own_st h0.toInt r0.toInt lv.toInt) T x)) = x → Go Z a0 n0 M2 { frames := 3, cells := 8, slots := 86, locals := 50 } Q 285 (own_L2 n0 kl H.length Pa xx O lv r (.val (.int t)) (.val (.int 0))) [] (H ++ [.inr (.int, own_sh m0 m1 m2 x)]) ce 86 := by
    intro q
    have k2 := k r (by rw [q]; exact hx)
    rw [q] at k2
    refine go_iinc12 (v := 1) i2_285  (by decide) ?_
    refine go_goto 232 i2_288 (by decide) ?_
    exact k2
  refine go_iload i2_232 rfl ?_
  refine go_aload i2_234 rfl ?_
  refine go_arraylength i2_236 (own_app _ hl) (n := 3) rfl ?_
  refine go_icmpF i2_237 (by decide) ?_
  refine go_iload i2_240 rfl ?_
  refine go_if_le 291 i2_242 (by decide) (fun g1 => ?_) (fun g1 => ?_)
  · rw [Int32.lt_iff_toInt_lt, z0] at g1
    exact k' (by omega)
  rw [Int32.lt_iff_toInt_lt, z0] at g1
  refine go_aload i2_245 rfl ?_
  refine go_iload i2_247 rfl ?_
  refine go_iaload i2_249 (own_app _ hl) (i := 0) (by decide) rfl ?_
  refine go_iload i2_250 rfl ?_
  refine go_icmp_le 285 i2_252 (by decide) (fun g2 => ?_) (fun g2 => ?_)
  · rw [Int32.lt_iff_toInt_lt] at g2
    exact no (by rw [own_t0, if_neg (fun q => g2 (of_decide_eq_true q.2.1))])
  rw [Int32.lt_iff_toInt_lt] at g2
  refine go_aloadN i2_255 rfl ?_
  refine go_iload i2_256 rfl ?_
  refine go_iaload i2_258 (own_app _ hh) (i := 0) (by decide) rfl ?_
  refine go_aloadN i2_259 rfl ?_
  refine go_iload i2_260 rfl ?_
  refine go_iaload i2_262 (own_app _ hr) (i := 0) (by decide) rfl ?_
  refine go_iload i2_263 rfl ?_
  refine go_static i2_265 (met9 hw h0 r0 lv _) (hw _ (List.mem_of_getElem? (i := 41) rfl)) (hw _ (List.mem_of_getElem? (i := 42) rfl)) (hw _ (List.mem_of_getElem? (i := 8) rfl)) (hw _ (List.mem_of_getElem? (i := 43) rfl)) rfl pd9 rfl rfl rfl (by first | decide | exact Nat.le_of_ble_eq_true rfl | (simp only [room_1]; omega)) (by first | decide | exact Nat.le_of_ble_eq_true rfl | (simp only [room_1]; omega)) (by first | decide | exact Nat.le_of_ble_eq_true rfl | (simp only [room_1]; omega)) (by first | decide | exact Nat.le_of_ble_eq_true rfl | (simp only [room_1]; omega)) (retE rfl ?_)
  refine go_iload i2_268 rfl ?_
  refine go_icmp_ne 285 i2_270 (by decide) (fun g3 => ?_) (fun g3 => ?_)
  · exact no (by rw [own_t0, if_neg (fun q => g3 (by rw [q.2.2]; exact ht))])
  have q3 : (own_st h0.toInt r0.toInt lv.toInt) = T := (own_stI (own_st_le _ _ _) hT).2.mp (g3.trans ht.symm)
  have ee : (own_t0 (own_g lv.toInt l0.toInt) (own_st h0.toInt r0.toInt lv.toInt) T x) = (x.1 - 1, x.2.1 + 1, x.2.2.1, x.2.2.2) := by rw [own_t0, if_pos ⟨by omega, decide_eq_true g2, q3⟩]
  rw [ee] at k
  refine go_aload i2_273 rfl ?_
  refine go_iload i2_275 rfl ?_
  refine go_dup2 i2_277 rfl rfl ?_
  refine go_iaload i2_278 (own_last _ _) (i := 0) (by decide) rfl ?_
  refine go_iconst (v := (1 : Int32)) i2_279 (by decide) ?_
  refine go_iadd i2_280 ?_
  refine go_iastore i2_281 (own_last _ _) (i := 0) (by decide) rfl ?_
  rw [own_setlast, own_inc]
  have c1 := c_iadd r (-1)
  have c2 := rng32 (r + -1)
  have c3 := rng32 r
  have o1 : (-1 : Int32).toInt = -1 := by decide
  rw [o1] at c1
  refine go_iinc10 (v := r + -1) i2_282  rfl ?_
  refine go_iinc12 (v := 1) i2_285  (by decide) ?_
  refine go_goto 232 i2_288 (by decide) ?_
  exact k (r + -1) (by show _ = ((x.1 - 1 : Nat) : Int); omega)
theorem tn1 (hw : ∀ d ∈ tables_1, d.before a0 Z = true) (hh : H[1]? = some (.inr (.int, [.int h0, .int h1, .int h2]))) (hr : H[2]? = some (.inr (.int, [.int r0, .int r1, .int r2]))) (hl : H[kl]? = some (.inr (.int, [.int l0, .int l1, .int l2]))) (r t : Int32) (x : OS) (T : Nat) (hx : r.toInt = (x.1 : Int)) (ht : Int32.ofNat T = t) (hT : T ≤ 2) (hce : ce ≤ 8)
    (k : ∀ r' : Int32, r'.toInt = (((own_t1 (own_g lv.toInt l1.toInt) (own_st h1.toInt r1.toInt lv.toInt) T x)).1 : Int) → Go Z a0 n0 M2 { frames := 3, cells := 8, slots := 86, locals := 50 } Q 232 (own_L2 n0 kl H.length Pa xx O lv r' (.val (.int t)) (.val (.int 2))) [] (H ++ [.inr (.int, own_sh m0 m1 m2 (own_t1 (own_g lv.toInt l1.toInt) (own_st h1.toInt r1.toInt lv.toInt) T x))]) ce 86)
    (k' : x.1 = 0 → Go Z a0 n0 M2 { frames := 3, cells := 8, slots := 86, locals := 50 } Q 291 (own_L2 n0 kl H.length Pa xx O lv r (.val (.int t)) (.val (.int 1))) [] (H ++ [.inr (.int, own_sh m0 m1 m2 x)]) ce 86) : Go Z a0 n0 M2 { frames := 3, cells := 8, slots := 86, locals := 50 } Q 232 (own_L2 n0 kl H.length Pa xx O lv r (.val (.int t)) (.val (.int 1))) [] (H ++ [.inr (.int, own_sh m0 m1 m2 x)]) ce 86 := by
  have z0 : (0 : Int32).toInt = 0 := by decide
  have no : ((own_t1 (own_g lv.toInt l1.toInt) (own_st h1.toInt r1.toInt lv.toInt) T x)) = x → Go Z a0 n0 M2 { frames := 3, cells := 8, slots := 86, locals := 50 } Q 285 (own_L2 n0 kl H.length Pa xx O lv r (.val (.int t)) (.val (.int 1))) [] (H ++ [.inr (.int, own_sh m0 m1 m2 x)]) ce 86 := by
    intro q
    have k2 := k r (by rw [q]; exact hx)
    rw [q] at k2
    refine go_iinc12 (v := 2) i2_285  (by decide) ?_
    refine go_goto 232 i2_288 (by decide) ?_
    exact k2
  refine go_iload i2_232 rfl ?_
  refine go_aload i2_234 rfl ?_
  refine go_arraylength i2_236 (own_app _ hl) (n := 3) rfl ?_
  refine go_icmpF i2_237 (by decide) ?_
  refine go_iload i2_240 rfl ?_
  refine go_if_le 291 i2_242 (by decide) (fun g1 => ?_) (fun g1 => ?_)
  · rw [Int32.lt_iff_toInt_lt, z0] at g1
    exact k' (by omega)
  rw [Int32.lt_iff_toInt_lt, z0] at g1
  refine go_aload i2_245 rfl ?_
  refine go_iload i2_247 rfl ?_
  refine go_iaload i2_249 (own_app _ hl) (i := 1) (by decide) rfl ?_
  refine go_iload i2_250 rfl ?_
  refine go_icmp_le 285 i2_252 (by decide) (fun g2 => ?_) (fun g2 => ?_)
  · rw [Int32.lt_iff_toInt_lt] at g2
    exact no (by rw [own_t1, if_neg (fun q => g2 (of_decide_eq_true q.2.1))])
  rw [Int32.lt_iff_toInt_lt] at g2
  refine go_aloadN i2_255 rfl ?_
  refine go_iload i2_256 rfl ?_
  refine go_iaload i2_258 (own_app _ hh) (i := 1) (by decide) rfl ?_
  refine go_aloadN i2_259 rfl ?_
  refine go_iload i2_260 rfl ?_
  refine go_iaload i2_262 (own_app _ hr) (i := 1) (by decide) rfl ?_
  refine go_iload i2_263 rfl ?_
  refine go_static i2_265 (met9 hw h1 r1 lv _) (hw _ (List.mem_of_getElem? (i := 41) rfl)) (hw _ (List.mem_of_getElem? (i := 42) rfl)) (hw _ (List.mem_of_getElem? (i := 8) rfl)) (hw _ (List.mem_of_getElem? (i := 43) rfl)) rfl pd9 rfl rfl rfl (by first | decide | exact Nat.le_of_ble_eq_true rfl | (simp only [room_1]; omega)) (by first | decide | exact Nat.le_of_ble_eq_true rfl | (simp only [room_1]; omega)) (by first | decide | exact Nat.le_of_ble_eq_true rfl | (simp only [room_1]; omega)) (by first | decide | exact Nat.le_of_ble_eq_true rfl | (simp only [room_1]; omega)) (retE rfl ?_)
  refine go_iload i2_268 rfl ?_
  refine go_icmp_ne 285 i2_270 (by decide) (fun g3 => ?_) (fun g3 => ?_)
  · exact no (by rw [own_t1, if_neg (fun q => g3 (by rw [q.2.2]; exact ht))])
  have q3 : (own_st h1.toInt r1.toInt lv.toInt) = T := (own_stI (own_st_le _ _ _) hT).2.mp (g3.trans ht.symm)
  have ee : (own_t1 (own_g lv.toInt l1.toInt) (own_st h1.toInt r1.toInt lv.toInt) T x) = (x.1 - 1, x.2.1, x.2.2.1 + 1, x.2.2.2) := by rw [own_t1, if_pos ⟨by omega, decide_eq_true g2, q3⟩]
  rw [ee] at k
  refine go_aload i2_273 rfl ?_
  refine go_iload i2_275 rfl ?_
  refine go_dup2 i2_277 rfl rfl ?_
  refine go_iaload i2_278 (own_last _ _) (i := 1) (by decide) rfl ?_
  refine go_iconst (v := (1 : Int32)) i2_279 (by decide) ?_
  refine go_iadd i2_280 ?_
  refine go_iastore i2_281 (own_last _ _) (i := 1) (by decide) rfl ?_
  rw [own_setlast, own_inc]
  have c1 := c_iadd r (-1)
  have c2 := rng32 (r + -1)
  have c3 := rng32 r
  have o1 : (-1 : Int32).toInt = -1 := by decide
  rw [o1] at c1
  refine go_iinc10 (v := r + -1) i2_282  rfl ?_
  refine go_iinc12 (v := 2) i2_285  (by decide) ?_
  refine go_goto 232 i2_288 (by decide) ?_
  exact k (r + -1) (by show _ = ((x.1 - 1 : Nat) : Int); omega)
theorem tn2 (hw : ∀ d ∈ tables_1, d.before a0 Z = true) (hh : H[1]? = some (.inr (.int, [.int h0, .int h1, .int h2]))) (hr : H[2]? = some (.inr (.int, [.int r0, .int r1, .int r2]))) (hl : H[kl]? = some (.inr (.int, [.int l0, .int l1, .int l2]))) (r t : Int32) (x : OS) (T : Nat) (hx : r.toInt = (x.1 : Int)) (ht : Int32.ofNat T = t) (hT : T ≤ 2) (hce : ce ≤ 8)
    (k : ∀ r' : Int32, r'.toInt = (((own_t2 (own_g lv.toInt l2.toInt) (own_st h2.toInt r2.toInt lv.toInt) T x)).1 : Int) → Go Z a0 n0 M2 { frames := 3, cells := 8, slots := 86, locals := 50 } Q 232 (own_L2 n0 kl H.length Pa xx O lv r' (.val (.int t)) (.val (.int 3))) [] (H ++ [.inr (.int, own_sh m0 m1 m2 (own_t2 (own_g lv.toInt l2.toInt) (own_st h2.toInt r2.toInt lv.toInt) T x))]) ce 86)
    (k' : x.1 = 0 → Go Z a0 n0 M2 { frames := 3, cells := 8, slots := 86, locals := 50 } Q 291 (own_L2 n0 kl H.length Pa xx O lv r (.val (.int t)) (.val (.int 2))) [] (H ++ [.inr (.int, own_sh m0 m1 m2 x)]) ce 86) : Go Z a0 n0 M2 { frames := 3, cells := 8, slots := 86, locals := 50 } Q 232 (own_L2 n0 kl H.length Pa xx O lv r (.val (.int t)) (.val (.int 2))) [] (H ++ [.inr (.int, own_sh m0 m1 m2 x)]) ce 86 := by
  have z0 : (0 : Int32).toInt = 0 := by decide
  have no : ((own_t2 (own_g lv.toInt l2.toInt) (own_st h2.toInt r2.toInt lv.toInt) T x)) = x → Go Z a0 n0 M2 { frames := 3, cells := 8, slots := 86, locals := 50 } Q 285 (own_L2 n0 kl H.length Pa xx O lv r (.val (.int t)) (.val (.int 2))) [] (H ++ [.inr (.int, own_sh m0 m1 m2 x)]) ce 86 := by
    intro q
    have k2 := k r (by rw [q]; exact hx)
    rw [q] at k2
    refine go_iinc12 (v := 3) i2_285  (by decide) ?_
    refine go_goto 232 i2_288 (by decide) ?_
    exact k2
  refine go_iload i2_232 rfl ?_
  refine go_aload i2_234 rfl ?_
  refine go_arraylength i2_236 (own_app _ hl) (n := 3) rfl ?_
  refine go_icmpF i2_237 (by decide) ?_
  refine go_iload i2_240 rfl ?_
  refine go_if_le 291 i2_242 (by decide) (fun g1 => ?_) (fun g1 => ?_)
  · rw [Int32.lt_iff_toInt_lt, z0] at g1
    exact k' (by omega)
  rw [Int32.lt_iff_toInt_lt, z0] at g1
  refine go_aload i2_245 rfl ?_
  refine go_iload i2_247 rfl ?_
  refine go_iaload i2_249 (own_app _ hl) (i := 2) (by decide) rfl ?_
  refine go_iload i2_250 rfl ?_
  refine go_icmp_le 285 i2_252 (by decide) (fun g2 => ?_) (fun g2 => ?_)
  · rw [Int32.lt_iff_toInt_lt] at g2
    exact no (by rw [own_t2, if_neg (fun q => g2 (of_decide_eq_true q.2.1))])
  rw [Int32.lt_iff_toInt_lt] at g2
  refine go_aloadN i2_255 rfl ?_
  refine go_iload i2_256 rfl ?_
  refine go_iaload i2_258 (own_app _ hh) (i := 2) (by decide) rfl ?_
  refine go_aloadN i2_259 rfl ?_
  refine go_iload i2_260 rfl ?_
  refine go_iaload i2_262 (own_app _ hr) (i := 2) (by decide) rfl ?_
  refine go_iload i2_263 rfl ?_
  refine go_static i2_265 (met9 hw h2 r2 lv _) (hw _ (List.mem_of_getElem? (i := 41) rfl)) (hw _ (List.mem_of_getElem? (i := 42) rfl)) (hw _ (List.mem_of_getElem? (i := 8) rfl)) (hw _ (List.mem_of_getElem? (i := 43) rfl)) rfl pd9 rfl rfl rfl (by first | decide | exact Nat.le_of_ble_eq_true rfl | (simp only [room_1]; omega)) (by first | decide | exact Nat.le_of_ble_eq_true rfl | (simp only [room_1]; omega)) (by first | decide | exact Nat.le_of_ble_eq_true rfl | (simp only [room_1]; omega)) (by first | decide | exact Nat.le_of_ble_eq_true rfl | (simp only [room_1]; omega)) (retE rfl ?_)
  refine go_iload i2_268 rfl ?_
  refine go_icmp_ne 285 i2_270 (by decide) (fun g3 => ?_) (fun g3 => ?_)
  · exact no (by rw [own_t2, if_neg (fun q => g3 (by rw [q.2.2]; exact ht))])
  have q3 : (own_st h2.toInt r2.toInt lv.toInt) = T := (own_stI (own_st_le _ _ _) hT).2.mp (g3.trans ht.symm)
  have ee : (own_t2 (own_g lv.toInt l2.toInt) (own_st h2.toInt r2.toInt lv.toInt) T x) = (x.1 - 1, x.2.1, x.2.2.1, x.2.2.2 + 1) := by rw [own_t2, if_pos ⟨by omega, decide_eq_true g2, q3⟩]
  rw [ee] at k
  refine go_aload i2_273 rfl ?_
  refine go_iload i2_275 rfl ?_
  refine go_dup2 i2_277 rfl rfl ?_
  refine go_iaload i2_278 (own_last _ _) (i := 2) (by decide) rfl ?_
  refine go_iconst (v := (1 : Int32)) i2_279 (by decide) ?_
  refine go_iadd i2_280 ?_
  refine go_iastore i2_281 (own_last _ _) (i := 2) (by decide) rfl ?_
  rw [own_setlast, own_inc]
  have c1 := c_iadd r (-1)
  have c2 := rng32 (r + -1)
  have c3 := rng32 r
  have o1 : (-1 : Int32).toInt = -1 := by decide
  rw [o1] at c1
  refine go_iinc10 (v := r + -1) i2_282  rfl ?_
  refine go_iinc12 (v := 3) i2_285  (by decide) ?_
  refine go_goto 232 i2_288 (by decide) ?_
  exact k (r + -1) (by show _ = ((x.1 - 1 : Nat) : Int); omega)
theorem rd (hw : ∀ d ∈ tables_1, d.before a0 Z = true) (hh : H[1]? = some (.inr (.int, [.int h0, .int h1, .int h2]))) (hr : H[2]? = some (.inr (.int, [.int r0, .int r1, .int r2]))) (hl : H[kl]? = some (.inr (.int, [.int l0, .int l1, .int l2]))) (r t : Int32) (x : OS) (T : Nat) (hx : r.toInt = (x.1 : Int)) (ht : Int32.ofNat T = t) (hT : T ≤ 2) (hce : ce ≤ 8) (s12 : Slot) (o12 : One s12)
    (k : ∀ (r' : Int32) (s : Slot), One s → r'.toInt = ((own_rd (own_g lv.toInt l0.toInt) (own_g lv.toInt l1.toInt) (own_g lv.toInt l2.toInt) (own_st h0.toInt r0.toInt lv.toInt) (own_st h1.toInt r1.toInt lv.toInt) (own_st h2.toInt r2.toInt lv.toInt) T x).1 : Int) → Go Z a0 n0 M2 { frames := 3, cells := 8, slots := 86, locals := 50 } Q 218 (own_L2 n0 kl H.length Pa xx O lv r' (.val (.int (t + 1))) s) [] (H ++ [.inr (.int, own_sh m0 m1 m2 (own_rd (own_g lv.toInt l0.toInt) (own_g lv.toInt l1.toInt) (own_g lv.toInt l2.toInt) (own_st h0.toInt r0.toInt lv.toInt) (own_st h1.toInt r1.toInt lv.toInt) (own_st h2.toInt r2.toInt lv.toInt) T x))]) ce 86)
    (k' : x.1 = 0 → Go Z a0 n0 M2 { frames := 3, cells := 8, slots := 86, locals := 50 } Q 297 (own_L2 n0 kl H.length Pa xx O lv r (.val (.int t)) s12) [] (H ++ [.inr (.int, own_sh m0 m1 m2 x)]) ce 86) : Go Z a0 n0 M2 { frames := 3, cells := 8, slots := 86, locals := 50 } Q 218 (own_L2 n0 kl H.length Pa xx O lv r (.val (.int t)) s12) [] (H ++ [.inr (.int, own_sh m0 m1 m2 x)]) ce 86 := by
  have z0 : (0 : Int32).toInt = 0 := by decide
  have t2 : ¬ (2 : Int32) < t := by
    rw [← ht]
    rcases (by omega : T = 0 ∨ T = 1 ∨ T = 2) with rfl | rfl | rfl <;> decide
  refine go_iload i2_218 rfl ?_
  refine go_iconst (v := (2 : Int32)) i2_220 (by decide) ?_
  refine go_icmpF i2_221 ((hold_gt _ _).2.mpr t2) ?_
  refine go_iload i2_224 rfl ?_
  refine go_if_le 297 i2_226 (by decide) (fun g1 => ?_) (fun g1 => ?_)
  · rw [Int32.lt_iff_toInt_lt, z0] at g1
    exact k' (by omega)
  refine go_iconst (v := (0 : Int32)) i2_229 (by decide) ?_
  refine go_istore12 i2_230 o12 ?_
  have out : ∀ (r' i : Int32) (y : OS), y = (own_rd (own_g lv.toInt l0.toInt) (own_g lv.toInt l1.toInt) (own_g lv.toInt l2.toInt) (own_st h0.toInt r0.toInt lv.toInt) (own_st h1.toInt r1.toInt lv.toInt) (own_st h2.toInt r2.toInt lv.toInt) T x) → r'.toInt = (y.1 : Int) → Go Z a0 n0 M2 { frames := 3, cells := 8, slots := 86, locals := 50 } Q 291 (own_L2 n0 kl H.length Pa xx O lv r' (.val (.int t)) (.val (.int i))) [] (H ++ [.inr (.int, own_sh m0 m1 m2 y)]) ce 86 := by
    intro r' i y hy hr'
    subst hy
    refine go_iinc11 (v := t + 1) i2_291  rfl ?_
    refine go_goto 218 i2_294 (by decide) ?_
    exact k r' _ (One.val rfl) hr'
  refine tn0 Q H kl Pa O lv xx l0 l1 l2 h0 h1 h2 r0 r1 r2 m0 m1 m2 ce hw hh hr hl r t x T hx ht hT hce (fun ra ha => ?_) (fun q => out _ _ _ (by rw [own_zr q]) hx)
  refine tn1 Q H kl Pa O lv xx l0 l1 l2 h0 h1 h2 r0 r1 r2 m0 m1 m2 ce hw hh hr hl ra t _ T ha ht hT hce (fun rb hb => ?_) (fun q => out _ _ _ (by rw [own_rd, own_z1 q, own_z2 q]) ha)
  refine tn2 Q H kl Pa O lv xx l0 l1 l2 h0 h1 h2 r0 r1 r2 m0 m1 m2 ce hw hh hr hl rb t _ T hb ht hT hce (fun rc hc => ?_) (fun q => out _ _ _ (by rw [own_rd, own_z2 q]) hb)
  refine go_iload i2_232 rfl ?_
  refine go_aload i2_234 rfl ?_
  refine go_arraylength i2_236 (own_app _ hl) (n := 3) rfl ?_
  refine go_icmpT 291 i2_237 (by decide) (by decide) ?_
  exact out _ _ _ rfl hc
theorem g215 (hw : ∀ d ∈ tables_1, d.before a0 Z = true) (hh : H[1]? = some (.inr (.int, [.int h0, .int h1, .int h2]))) (hr : H[2]? = some (.inr (.int, [.int r0, .int r1, .int r2]))) (hl : H[kl]? = some (.inr (.int, [.int l0, .int l1, .int l2]))) (r : Int32) (R0 : Nat) (hx : r.toInt = (R0 : Int)) (hce : ce ≤ 8)
    (hQ : Q (some (.ref (n0 + H.length))) (H ++ [.inr (.int, own_sh m0 m1 m2 (own_run (own_g lv.toInt l0.toInt) (own_g lv.toInt l1.toInt) (own_g lv.toInt l2.toInt) (own_st h0.toInt r0.toInt lv.toInt) (own_st h1.toInt r1.toInt lv.toInt) (own_st h2.toInt r2.toInt lv.toInt) R0))])) (s11 s12 : Slot) (o11 : One s11) (o12 : One s12) : Go Z a0 n0 M2 { frames := 3, cells := 8, slots := 86, locals := 50 } Q 215 (own_L2 n0 kl H.length Pa xx O lv r s11 s12) [] (H ++ [.inr (.int, own_sh m0 m1 m2 (R0, 0, 0, 0))]) ce 86 := by
  have out : ∀ (r' : Int32) (s s' : Slot) (y : OS), y = own_run (own_g lv.toInt l0.toInt) (own_g lv.toInt l1.toInt) (own_g lv.toInt l2.toInt) (own_st h0.toInt r0.toInt lv.toInt) (own_st h1.toInt r1.toInt lv.toInt) (own_st h2.toInt r2.toInt lv.toInt) R0 → Go Z a0 n0 M2 { frames := 3, cells := 8, slots := 86, locals := 50 } Q 297 (own_L2 n0 kl H.length Pa xx O lv r' s s') [] (H ++ [.inr (.int, own_sh m0 m1 m2 y)]) ce 86 := by
    intro r' s s' y hy
    subst hy
    refine go_aload i2_297 rfl ?_
    refine go_areturn i2_299 rfl rfl rfl rfl (by first | decide | exact Nat.le_of_ble_eq_true rfl | (simp only [room_1]; omega)) (by first | decide | exact Nat.le_of_ble_eq_true rfl | (simp only [room_1]; omega)) ?_
    exact hQ
  refine go_iconst (v := (0 : Int32)) i2_215 (by decide) ?_
  refine go_istore11 i2_216 o11 ?_
  refine rd Q H kl Pa O lv xx l0 l1 l2 h0 h1 h2 r0 r1 r2 m0 m1 m2 ce hw hh hr hl r 0 (R0, 0, 0, 0) 0 hx rfl (by decide) hce _ o12 (fun ra sa oa ha => ?_) (fun q => out _ _ _ _ (by rw [own_run, own_zr q, own_zr q, own_zr q]))
  refine rd Q H kl Pa O lv xx l0 l1 l2 h0 h1 h2 r0 r1 r2 m0 m1 m2 ce hw hh hr hl ra (0 + 1) _ 1 ha rfl (by decide) hce _ oa (fun rb sb ob hb => ?_) (fun q => out _ _ _ _ (by rw [own_run, own_zr q, own_zr q]))
  refine rd Q H kl Pa O lv xx l0 l1 l2 h0 h1 h2 r0 r1 r2 m0 m1 m2 ce hw hh hr hl rb (0 + 1 + 1) _ 2 hb rfl (by decide) hce _ ob (fun rc sc oc hc => ?_) (fun q => out _ _ _ _ (by rw [own_run, own_zr q]))
  refine go_iload i2_218 rfl ?_
  refine go_iconst (v := (2 : Int32)) i2_220 (by decide) ?_
  refine go_icmpT 297 i2_221 (by decide) (by decide) ?_
  exact out _ _ _ _ rfl
end Steps
theorem own_sub3 {O m0 m1 m2 : Int32} {l0 l1 l2 lv : Int} (hO : 0 ≤ O.toInt) (e0 : m0.toInt = min l0 lv) (e1 : m1.toInt = min l1 lv) (e2 : m2.toInt = min l2 lv) (p0 : 0 ≤ l0) (p1 : 0 ≤ l1) (p2 : 0 ≤ l2) (hv : 0 ≤ lv) (h : own_fil l0 l1 l2 lv ≤ O.toInt) : (O - m0 - m1 - m2).toInt = O.toInt - own_fil l0 l1 l2 lv := by
  have c1 := c_isub O m0
  have c2 := c_isub (O - m0) m1
  have c3 := c_isub (O - m0 - m1) m2
  have q1 := rng32 (O - m0)
  have q2 := rng32 (O - m0 - m1)
  have q3 := rng32 (O - m0 - m1 - m2)
  have q := rng32 O
  unfold own_fil at *
  omega
theorem own_b1 (lv l : Int) : own_b (own_g lv l) ≤ 1 ∧ (¬ lv < l → own_b (own_g lv l) = 0) := by
  unfold own_b own_g
  by_cases q : lv < l <;> simp [q]
theorem own_fits {m : Int32} {e : Nat} {l lv : Int} (h : e ≤ own_b (own_g lv l)) (hm : m.toInt = min l lv) (hv : lv ≤ 2147483646) : (m + Int32.ofNat e).toInt = min l lv + (e : Int) := by
  have b := own_b1 lv l
  have c1 := c_iadd m (Int32.ofNat e)
  have q := rng32 (m + Int32.ofNat e)
  have qm := rng32 m
  have h3 : (Int32.ofNat e).toInt = (e : Int) := by
    rcases (by omega : e = 0 ∨ e = 1) with rfl | rfl <;> decide
  omega
theorem own_hv {O lv P s : Int} (v : lv ≤ O) (hO : O = min P s) (hP : P ≤ 2147483646) : lv ≤ 2147483646 := by omega
theorem own_sum {a b c O : Int} {e0 e1 e2 R : Nat} (h : e0 + e1 + e2 = R) (hR : (R : Int) = O - (a + b + c)) : a + (e0 : Int) + (b + (e1 : Int)) + (c + (e2 : Int)) = O := by omega
theorem own_wi {l lv : Int} {e : Nat} (p : 0 ≤ l) (v : 0 ≤ lv) (h : e ≤ own_b (own_g lv l)) : 0 ≤ min l lv + (e : Int) ∧ min l lv + (e : Int) ≤ l := by
  have b := own_b1 lv l
  omega
theorem own_end {P : Int} {l0 l1 l2 h0 h1 h2 r0 r1 r2 O lv m0 m1 m2 : Int32} {R0 : Nat} (p0 : 0 ≤ l0.toInt) (p1 : 0 ≤ l1.toInt) (p2 : 0 ≤ l2.toInt) (hP : P ≤ 2147483646) (hO : O.toInt = min P (l0.toInt + l1.toInt + l2.toInt)) (hl : own_lev l0.toInt l1.toInt l2.toInt O.toInt lv.toInt) (e0 : m0.toInt = min l0.toInt lv.toInt) (e1 : m1.toInt = min l1.toInt lv.toInt) (e2 : m2.toInt = min l2.toInt lv.toInt) (hR : (R0 : Int) = O.toInt - own_fil l0.toInt l1.toInt l2.toInt lv.toInt) (x : OS) (hx : x = own_run (own_g lv.toInt l0.toInt) (own_g lv.toInt l1.toInt) (own_g lv.toInt l2.toInt) (own_st h0.toInt r0.toInt lv.toInt) (own_st h1.toInt r1.toInt lv.toInt) (own_st h2.toInt r2.toInt lv.toInt) R0) :
    own_sp P l0.toInt l1.toInt l2.toInt h0.toInt h1.toInt h2.toInt r0.toInt r1.toInt r2.toInt (m0 + Int32.ofNat x.2.1).toInt (m1 + Int32.ofNat x.2.2.1).toInt (m2 + Int32.ofNat x.2.2.2).toInt := by
  obtain ⟨v1, v2, v3, v4⟩ := hl
  have hc := own_lvl p0 p1 p2 hO v1 v3 v4
  have hc' : (R0 : Int) ≤ ((own_b (own_g lv.toInt l0.toInt) + own_b (own_g lv.toInt l1.toInt) + own_b (own_g lv.toInt l2.toInt) : Nat) : Int) := by rw [hR]; exact hc
  have hg := own_fin' (R := R0) (g0 := (own_g lv.toInt l0.toInt)) (g1 := (own_g lv.toInt l1.toInt)) (g2 := (own_g lv.toInt l2.toInt)) (own_st_le h0.toInt r0.toInt lv.toInt) (own_st_le h1.toInt r1.toInt lv.toInt) (own_st_le h2.toInt r2.toInt lv.toInt) (Int.ofNat_le.mp hc')
  rw [← hx] at hg
  clear hx hc hc' v3 v4
  obtain ⟨g1, g2, g3, g4, g5, g6, g7, g8, g9, g10⟩ := hg
  have hv : lv.toInt ≤ 2147483646 := own_hv v2 hO hP
  rw [own_fits g1 e0 hv, own_fits g2 e1 hv, own_fits g3 e2 hv]
  exact ⟨(own_sum g4 hR).trans hO, own_wi p0 v1 g1, own_wi p1 v1 g2, own_wi p2 v1 g3, own_pair_of g1 g2 g5, own_pair_of g2 g1 g6, own_pair_of g1 g3 g7, own_pair_of g3 g1 g8, own_pair_of g2 g3 g9, own_pair_of g3 g2 g10⟩
theorem own_o0 (m : Int32) : m = m + Int32.ofNat 0 := by
  rw [show Int32.ofNat 0 = 0 from rfl, Int32.add_zero]
theorem g143 (hw : ∀ d ∈ tables_1, d.before a0 Z = true) (Q : Option Value → List GObj → Prop) (H : List GObj) (kl : Nat) (Pa : Int32) (xx : Int64) (l0 l1 l2 h0 h1 h2 r0 r1 r2 : Int32) (ce : Nat) (hh : H[1]? = some (.inr (.int, [.int h0, .int h1, .int h2]))) (hr : H[2]? = some (.inr (.int, [.int r0, .int r1, .int r2]))) (hl : H[kl]? = some (.inr (.int, [.int l0, .int l1, .int l2]))) (hce : ce ≤ 7) (hP0 : 0 ≤ Pa.toInt) (hP : Pa.toInt ≤ 2147483646) (p0 : 0 ≤ l0.toInt) (p1 : 0 ≤ l1.toInt) (p2 : 0 ≤ l2.toInt) (hxx : xx.toInt = l0.toInt + l1.toInt + l2.toInt) (s7 : Slot) (o7 : One s7)
    (hQ : ∀ s0 s1 s2 : Int32, own_sp Pa.toInt l0.toInt l1.toInt l2.toInt h0.toInt h1.toInt h2.toInt r0.toInt r1.toInt r2.toInt s0.toInt s1.toInt s2.toInt → Q (some (.ref (n0 + H.length))) (H ++ [.inr (.int, [.int s0, .int s1, .int s2])])) :
    Go Z a0 n0 M2 { frames := 3, cells := 8, slots := 86, locals := 50 } Q 143 [.val (.int Pa), .val (.ref (n0 + 0)), .val (.ref (n0 + 1)), .val (.ref (n0 + 2)), .val (.ref (n0 + kl)), .val (.long xx), .second, s7, .unset, .unset, .unset, .unset, .unset] [] H ce 83 := by
  refine go_iloadN i2_143 rfl ?_
  refine go_i2l i2_144 ?_
  refine go_lload i2_145 rfl ?_
  refine go_static i2_147 (met1 hw _ _ H) (hw _ (List.mem_of_getElem? (i := 24) rfl)) (hw _ (List.mem_of_getElem? (i := 3) rfl)) (hw _ (List.mem_of_getElem? (i := 4) rfl)) (hw _ (List.mem_of_getElem? (i := 5) rfl)) rfl pd1 rfl rfl rfl (by first | decide | exact Nat.le_of_ble_eq_true rfl | (simp only [room_1]; omega)) (by first | decide | exact Nat.le_of_ble_eq_true rfl | (simp only [room_1]; omega)) (by first | decide | exact Nat.le_of_ble_eq_true rfl | (simp only [room_1]; omega)) (by first | decide | exact Nat.le_of_ble_eq_true rfl | (simp only [room_1]; omega)) ?_
  rintro _ H ⟨⟨w, rfl, hw1⟩, rfl⟩
  refine ⟨rfl, ?_⟩
  rw [c_i2l, hxx] at hw1
  have c1 := c_l2i w
  have c2 := rng32 w.toInt32
  have hO : w.toInt32.toInt = min Pa.toInt (l0.toInt + l1.toInt + l2.toInt) := by omega
  refine go_l2i i2_150 ?_
  refine go_istore7 i2_151 o7 ?_
  refine go_aload i2_153 rfl ?_
  refine go_iload i2_155 rfl ?_
  generalize w.toInt32 = O at *
  refine go_static i2_157 (met4 hw H kl l0 l1 l2 O hl p0 p1 p2 (by omega) (by omega)) (hw _ (List.mem_of_getElem? (i := 25) rfl)) (hw _ (List.mem_of_getElem? (i := 26) rfl)) (hw _ (List.mem_of_getElem? (i := 8) rfl)) (hw _ (List.mem_of_getElem? (i := 27) rfl)) rfl pd4 rfl rfl rfl (by first | decide | exact Nat.le_of_ble_eq_true rfl | (simp only [room_1]; omega)) (by first | decide | exact Nat.le_of_ble_eq_true rfl | (simp only [room_1]; omega)) (by first | decide | exact Nat.le_of_ble_eq_true rfl | (simp only [room_1]; omega)) (by first | decide | exact Nat.le_of_ble_eq_true rfl | (simp only [room_1]; omega)) ?_
  rintro _ H ⟨⟨lv, rfl, hlv⟩, rfl⟩
  refine ⟨rfl, ?_⟩
  refine go_istore8 i2_160 (by first | exact One.u | exact One.val rfl) ?_
  refine go_aload i2_162 rfl ?_
  refine go_arraylength i2_164 hl (n := 3) rfl ?_
  refine go_newarray (k := H.length) 3 i2_165 rfl (hw _ (List.mem_of_getElem? (i := 1) rfl)) (by decide) (show _ = [Value.int 0, .int 0, .int 0] from rfl) (by decide) (by decide) rfl (by first | decide | exact Nat.le_of_ble_eq_true rfl | (simp only [room_1]; omega)) (by first | decide | exact Nat.le_of_ble_eq_true rfl | (simp only [room_1]; omega)) ?_
  refine go_astore9 i2_167 (by first | exact One.u | exact One.val rfl) ?_
  refine go_iload i2_169 rfl ?_
  refine go_istore10 i2_171 (by first | exact One.u | exact One.val rfl) ?_
  refine go_iconst (v := (0 : Int32)) i2_173 (by decide) ?_
  refine go_istore11 i2_174 (by first | exact One.u | exact One.val rfl) ?_
  refine go_iload i2_176 rfl ?_
  refine go_aload i2_178 rfl ?_
  refine go_arraylength i2_180 (own_app _ hl) (n := 3) rfl ?_
  refine go_icmpF i2_181 (by decide) ?_
  refine go_aload i2_184 rfl ?_
  refine go_iload i2_186 rfl ?_
  refine go_aload i2_188 rfl ?_
  refine go_iload i2_190 rfl ?_
  refine go_iaload i2_192 (own_app _ hl) (i := 0) (by decide) rfl ?_
  refine go_iload i2_193 rfl ?_
  refine go_static i2_195 (met6 hw _ _ _) (hw _ (List.mem_of_getElem? (i := 31) rfl)) (hw _ (List.mem_of_getElem? (i := 32) rfl)) (hw _ (List.mem_of_getElem? (i := 4) rfl)) (hw _ (List.mem_of_getElem? (i := 33) rfl)) rfl pd6 rfl rfl rfl (by first | decide | exact Nat.le_of_ble_eq_true rfl | (simp only [room_1]; omega)) (by first | decide | exact Nat.le_of_ble_eq_true rfl | (simp only [room_1]; omega)) (by first | decide | exact Nat.le_of_ble_eq_true rfl | (simp only [room_1]; omega)) (by first | decide | exact Nat.le_of_ble_eq_true rfl | (simp only [room_1]; omega)) (retE rfl ?_)
  refine go_iastore i2_198 (own_last _ _) (i := 0) (by decide) rfl ?_
  rw [own_setlast]
  refine go_iload i2_199 rfl ?_
  refine go_aload i2_201 rfl ?_
  refine go_iload i2_203 rfl ?_
  refine go_iaload i2_205 (own_last _ _) (i := 0) (by decide) rfl ?_
  refine go_isub i2_206 ?_
  refine go_istore10 i2_207 (by first | exact One.u | exact One.val rfl) ?_
  refine go_iinc11 (v := 1) i2_209  (by decide) ?_
  refine go_goto 176 i2_212 (by decide) ?_
  refine go_iload i2_176 rfl ?_
  refine go_aload i2_178 rfl ?_
  refine go_arraylength i2_180 (own_app _ hl) (n := 3) rfl ?_
  refine go_icmpF i2_181 (by decide) ?_
  refine go_aload i2_184 rfl ?_
  refine go_iload i2_186 rfl ?_
  refine go_aload i2_188 rfl ?_
  refine go_iload i2_190 rfl ?_
  refine go_iaload i2_192 (own_app _ hl) (i := 1) (by decide) rfl ?_
  refine go_iload i2_193 rfl ?_
  refine go_static i2_195 (met6 hw _ _ _) (hw _ (List.mem_of_getElem? (i := 31) rfl)) (hw _ (List.mem_of_getElem? (i := 32) rfl)) (hw _ (List.mem_of_getElem? (i := 4) rfl)) (hw _ (List.mem_of_getElem? (i := 33) rfl)) rfl pd6 rfl rfl rfl (by first | decide | exact Nat.le_of_ble_eq_true rfl | (simp only [room_1]; omega)) (by first | decide | exact Nat.le_of_ble_eq_true rfl | (simp only [room_1]; omega)) (by first | decide | exact Nat.le_of_ble_eq_true rfl | (simp only [room_1]; omega)) (by first | decide | exact Nat.le_of_ble_eq_true rfl | (simp only [room_1]; omega)) (retE rfl ?_)
  refine go_iastore i2_198 (own_last _ _) (i := 1) (by decide) rfl ?_
  rw [own_setlast]
  refine go_iload i2_199 rfl ?_
  refine go_aload i2_201 rfl ?_
  refine go_iload i2_203 rfl ?_
  refine go_iaload i2_205 (own_last _ _) (i := 1) (by decide) rfl ?_
  refine go_isub i2_206 ?_
  refine go_istore10 i2_207 (by first | exact One.u | exact One.val rfl) ?_
  refine go_iinc11 (v := 2) i2_209  (by decide) ?_
  refine go_goto 176 i2_212 (by decide) ?_
  refine go_iload i2_176 rfl ?_
  refine go_aload i2_178 rfl ?_
  refine go_arraylength i2_180 (own_app _ hl) (n := 3) rfl ?_
  refine go_icmpF i2_181 (by decide) ?_
  refine go_aload i2_184 rfl ?_
  refine go_iload i2_186 rfl ?_
  refine go_aload i2_188 rfl ?_
  refine go_iload i2_190 rfl ?_
  refine go_iaload i2_192 (own_app _ hl) (i := 2) (by decide) rfl ?_
  refine go_iload i2_193 rfl ?_
  refine go_static i2_195 (met6 hw _ _ _) (hw _ (List.mem_of_getElem? (i := 31) rfl)) (hw _ (List.mem_of_getElem? (i := 32) rfl)) (hw _ (List.mem_of_getElem? (i := 4) rfl)) (hw _ (List.mem_of_getElem? (i := 33) rfl)) rfl pd6 rfl rfl rfl (by first | decide | exact Nat.le_of_ble_eq_true rfl | (simp only [room_1]; omega)) (by first | decide | exact Nat.le_of_ble_eq_true rfl | (simp only [room_1]; omega)) (by first | decide | exact Nat.le_of_ble_eq_true rfl | (simp only [room_1]; omega)) (by first | decide | exact Nat.le_of_ble_eq_true rfl | (simp only [room_1]; omega)) (retE rfl ?_)
  refine go_iastore i2_198 (own_last _ _) (i := 2) (by decide) rfl ?_
  rw [own_setlast]
  refine go_iload i2_199 rfl ?_
  refine go_aload i2_201 rfl ?_
  refine go_iload i2_203 rfl ?_
  refine go_iaload i2_205 (own_last _ _) (i := 2) (by decide) rfl ?_
  refine go_isub i2_206 ?_
  refine go_istore10 i2_207 (by first | exact One.u | exact One.val rfl) ?_
  refine go_iinc11 (v := 3) i2_209  (by decide) ?_
  refine go_goto 176 i2_212 (by decide) ?_
  refine go_iload i2_176 rfl ?_
  refine go_aload i2_178 rfl ?_
  refine go_arraylength i2_180 (own_app _ hl) (n := 3) rfl ?_
  refine go_icmpT 215 i2_181 (by decide) (by decide) ?_
  have hv := hlv
  obtain ⟨v1, v2, v3, v4⟩ := hv
  have e0 := own_mn_i l0 lv
  have e1 := own_mn_i l1 lv
  have e2 := own_mn_i l2 lv
  generalize own_mn l0 lv = m0 at *
  generalize own_mn l1 lv = m1 at *
  generalize own_mn l2 lv = m2 at *
  have hs := own_sub3 (by omega) e0 e1 e2 p0 p1 p2 v1 v3
  obtain ⟨R0, hR⟩ : ∃ R0 : Nat, (R0 : Int) = O.toInt - own_fil l0.toInt l1.toInt l2.toInt lv.toInt := ⟨(O.toInt - own_fil l0.toInt l1.toInt l2.toInt lv.toInt).toNat, by omega⟩
  have G := g215 (n0 := n0) Q H kl Pa O lv xx l0 l1 l2 h0 h1 h2 r0 r1 r2 m0 m1 m2 (ce + 1) hw hh hr hl (O - m0 - m1 - m2) R0 (by omega) (by omega) (hQ _ _ _ (own_end p0 p1 p2 hP hO hlv e0 e1 e2 hR _ rfl)) (.val (.int 3)) .unset (One.val rfl) One.u
  rw [own_sh, ← own_o0, ← own_o0, ← own_o0] at G
  exact G
theorem lt2 (hw : ∀ d ∈ tables_1, d.before a0 Z = true) (Q : Option Value → List GObj → Prop) (H : List GObj) (Pa i c c0 c1 c2 : Int32) (I : Nat) (hi : i.toInt = (I : Int)) (hI : I < 3) (hcs : H[0]? = some (.inr (.int, [.int c0, .int c1, .int c2]))) (hc : ([.int c0, .int c1, .int c2] : List Value)[I]? = some (.int c)) (h0 : 0 ≤ c.toInt) (vs : List Value) (hv : vs.length = 3) (x : Int64) (ce : Nat)
    (k : Go Z a0 n0 M2 { frames := 3, cells := 8, slots := 86, locals := 50 } Q 75 [.val (.int Pa), .val (.ref (n0 + 0)), .val (.ref (n0 + 1)), .val (.ref (n0 + 2)), .val (.ref (n0 + H.length)), .val (.long (x + (own_lim Pa c).toInt64)), .second, .val (.int (i + 1)), .unset, .unset, .unset, .unset, .unset] [] (H ++ [.inr (.int, vs.set I (.int (own_lim Pa c)))]) ce 83) :
    Go Z a0 n0 M2 { frames := 3, cells := 8, slots := 86, locals := 50 } Q 75 [.val (.int Pa), .val (.ref (n0 + 0)), .val (.ref (n0 + 1)), .val (.ref (n0 + 2)), .val (.ref (n0 + H.length)), .val (.long x), .second, .val (.int i), .unset, .unset, .unset, .unset, .unset] [] (H ++ [.inr (.int, vs)]) ce 83 := by
  have z0 : (0 : Int32).toInt = 0 := by decide
  have z3 : (3 : Int32).toInt = 3 := by decide
  have is : (vs[I]?).isSome = true := by simp [hv, hI]
  have nx : ∀ d : Int32, d = own_lim Pa c → Go Z a0 n0 M2 { frames := 3, cells := 8, slots := 86, locals := 50 } Q 125 [.val (.int Pa), .val (.ref (n0 + 0)), .val (.ref (n0 + 1)), .val (.ref (n0 + 2)), .val (.ref (n0 + H.length)), .val (.long x), .second, .val (.int i), .unset, .unset, .unset, .unset, .unset] [.int d, .int i, .ref (n0 + H.length)] (H ++ [.inr (.int, vs)]) ce 83 := by
    intro d hd
    subst hd
    refine go_iastore i2_125 (own_last _ _) hi is ?_
    rw [own_setlast]
    refine go_lload i2_126 rfl ?_
    refine go_aload i2_128 rfl ?_
    refine go_iload i2_130 rfl ?_
    refine go_iaload i2_132 (own_last _ _) hi (by rw [List.getElem?_set_self (by omega)]) ?_
    refine go_i2l i2_133 ?_
    refine go_ladd i2_134 ?_
    refine go_lstore5 i2_135 (by first | exact Or.inl ⟨One.u, One.u⟩ | exact Or.inr ⟨_, rfl, rfl⟩ | exact Or.inl ⟨One.val rfl, One.u⟩ | exact Or.inl ⟨One.u, One.val rfl⟩ | exact Or.inl ⟨One.val rfl, One.val rfl⟩) ?_
    refine go_iinc7 (v := i + 1) i2_137  rfl ?_
    refine go_goto 75 i2_140 (by decide) ?_
    exact k
  refine go_iload i2_75 rfl ?_
  refine go_aloadN i2_77 rfl ?_
  refine go_arraylength i2_78 (own_app _ hcs) (n := 3) rfl ?_
  refine go_icmpF i2_79 ((hold_ge _ _).2.mpr (by rw [Int32.lt_iff_toInt_lt, z3]; omega)) ?_
  refine go_aloadN i2_82 rfl ?_
  refine go_iload i2_83 rfl ?_
  refine go_iaload i2_85 (own_app _ hcs) hi hc ?_
  refine go_ifT 106 i2_86 (by decide) ((if0 _ _).trans ((hold_ge _ _).1.mpr (by rw [Int32.lt_iff_toInt_lt, z0]; omega))) ?_
  refine go_aload i2_106 rfl ?_
  refine go_iload i2_108 rfl ?_
  refine go_aloadN i2_110 rfl ?_
  refine go_iload i2_111 rfl ?_
  refine go_iaload i2_113 (own_app _ hcs) hi hc ?_
  refine go_if_ne 121 i2_114 (by decide) (fun g => ?_) (fun g => ?_)
  · refine go_aloadN i2_121 rfl ?_
    refine go_iload i2_122 rfl ?_
    refine go_iaload i2_124 (own_app _ hcs) hi hc ?_
    exact nx _ (by rw [own_lim, if_neg g])
  · refine go_iloadN i2_117 rfl ?_
    refine go_goto 125 i2_118 (by decide) ?_
    exact nx _ (by rw [own_lim, if_pos g])
theorem g21 (hw : ∀ d ∈ tables_1, d.before a0 Z = true) (Q : Option Value → List GObj → Prop) (H : List GObj) (Pa c0 c1 c2 h0 h1 h2 r0 r1 r2 : Int32) (ce : Nat) (hcs : H[0]? = some (.inr (.int, [.int c0, .int c1, .int c2]))) (hh : H[1]? = some (.inr (.int, [.int h0, .int h1, .int h2]))) (hr : H[2]? = some (.inr (.int, [.int r0, .int r1, .int r2]))) (hce : ce ≤ 6) (hP0 : 0 ≤ Pa.toInt) (hP : Pa.toInt ≤ 2147483646) (p0 : 0 ≤ c0.toInt) (p1 : 0 ≤ c1.toInt) (p2 : 0 ≤ c2.toInt)
    (hQ : ∀ (s0 s1 s2 : Int32) (X : GObj), own_sp Pa.toInt (own_lim Pa c0).toInt (own_lim Pa c1).toInt (own_lim Pa c2).toInt h0.toInt h1.toInt h2.toInt r0.toInt r1.toInt r2.toInt s0.toInt s1.toInt s2.toInt → Q (some (.ref (n0 + (H.length + 1)))) (H ++ [X] ++ [.inr (.int, [.int s0, .int s1, .int s2])])) : Go Z a0 n0 M2 { frames := 3, cells := 8, slots := 86, locals := 50 } Q 21 [.val (.int Pa), .val (.ref (n0 + 0)), .val (.ref (n0 + 1)), .val (.ref (n0 + 2)), .unset, .unset, .unset, .unset, .unset, .unset, .unset, .unset, .unset] [] H ce 80 := by
  have z0 : (0 : Int32).toInt = 0 := by decide
  have lm : ∀ c : Int32, 0 ≤ c.toInt → 0 ≤ (own_lim Pa c).toInt := by
    intro c hc
    unfold own_lim
    split <;> assumption
  refine go_iloadN i2_21 rfl ?_
  refine go_ifT 39 i2_22 (by decide) ((if0 _ _).trans ((hold_ge _ _).1.mpr (by rw [Int32.lt_iff_toInt_lt, z0]; omega))) ?_
  refine go_aloadN i2_39 rfl ?_
  refine go_arraylength i2_40 hh (n := 3) rfl ?_
  refine go_aloadN i2_41 rfl ?_
  refine go_arraylength i2_42 hcs (n := 3) rfl ?_
  refine go_icmpF i2_43 (by decide) ?_
  refine go_aloadN i2_46 rfl ?_
  refine go_arraylength i2_47 hr (n := 3) rfl ?_
  refine go_aloadN i2_48 rfl ?_
  refine go_arraylength i2_49 hcs (n := 3) rfl ?_
  refine go_icmpT 63 i2_50 (by decide) (by decide) ?_
  refine go_aloadN i2_63 rfl ?_
  refine go_arraylength i2_64 hcs (n := 3) rfl ?_
  refine go_newarray (k := H.length) 3 i2_65 rfl (hw _ (List.mem_of_getElem? (i := 1) rfl)) (by decide) (show _ = [Value.int 0, .int 0, .int 0] from rfl) (by decide) (by decide) rfl (by first | decide | exact Nat.le_of_ble_eq_true rfl | (simp only [room_1]; omega)) (by first | decide | exact Nat.le_of_ble_eq_true rfl | (simp only [room_1]; omega)) ?_
  refine go_astore4 i2_67 (by first | exact One.u | exact One.val rfl) ?_
  refine go_lconst (v := (0 : Int64)) i2_69 (by decide) ?_
  refine go_lstore5 i2_70 (by first | exact Or.inl ⟨One.u, One.u⟩ | exact Or.inr ⟨_, rfl, rfl⟩ | exact Or.inl ⟨One.val rfl, One.u⟩ | exact Or.inl ⟨One.u, One.val rfl⟩ | exact Or.inl ⟨One.val rfl, One.val rfl⟩) ?_
  refine go_iconst (v := (0 : Int32)) i2_72 (by decide) ?_
  refine go_istore7 i2_73 (by first | exact One.u | exact One.val rfl) ?_
  refine lt2 hw Q H Pa 0 c0 c0 c1 c2 0 (by decide) (by decide) hcs rfl p0 _ rfl 0 (ce + 1) ?_
  refine lt2 hw Q H Pa (0 + 1) c1 c0 c1 c2 1 (by decide) (by decide) hcs rfl p1 _ rfl _ (ce + 1) ?_
  refine lt2 hw Q H Pa (0 + 1 + 1) c2 c0 c1 c2 2 (by decide) (by decide) hcs rfl p2 _ rfl _ (ce + 1) ?_
  refine go_iload i2_75 rfl ?_
  refine go_aloadN i2_77 rfl ?_
  refine go_arraylength i2_78 (own_app _ hcs) (n := 3) rfl ?_
  refine go_icmpT 143 i2_79 (by decide) (by decide) ?_
  have hx := own_l3 (own_lim Pa c0) (own_lim Pa c1) (own_lim Pa c2)
  exact g143 hw Q (H ++ [.inr (.int, [.int (own_lim Pa c0), .int (own_lim Pa c1), .int (own_lim Pa c2)])]) H.length Pa (0 + (own_lim Pa c0).toInt64 + (own_lim Pa c1).toInt64 + (own_lim Pa c2).toInt64) (own_lim Pa c0) (own_lim Pa c1) (own_lim Pa c2) h0 h1 h2 r0 r1 r2 (ce + 1) (own_app _ hh) (own_app _ hr) (own_last _ _) (by omega) hP0 hP (lm c0 p0) (lm c1 p1) (lm c2 p2) (by rw [Int64.zero_add]; exact hx) (.val (.int (0 + 1 + 1 + 1))) (One.val rfl) (fun s0 s1 s2 q => by
    have := hQ s0 s1 s2 (.inr (.int, [.int (own_lim Pa c0), .int (own_lim Pa c1), .int (own_lim Pa c2)])) q
    rw [List.length_append]
    exact this)
abbrev own_Q2 (n0 : Nat) (H : List GObj) (Pa c0 c1 c2 h0 h1 h2 r0 r1 r2 : Int32) : Option Value → List GObj → Prop := fun v H' => ∃ (k g : Nat) (s0 s1 s2 : Int32), v = some (.ref (n0 + k)) ∧ H'.length = H.length + g ∧ g ≤ 8 ∧ H'[k]? = some (.inr (.int, [.int s0, .int s1, .int s2])) ∧ (∀ (j : Nat) (o : GObj), H[j]? = some o → H'[j]? = some o) ∧ own_sp Pa.toInt (own_lim Pa c0).toInt (own_lim Pa c1).toInt (own_lim Pa c2).toInt h0.toInt h1.toInt h2.toInt r0.toInt r1.toInt r2.toInt s0.toInt s1.toInt s2.toInt
theorem met2 (hw : ∀ d ∈ tables_1, d.before a0 Z = true) (H : List GObj) (Pa c0 c1 c2 h0 h1 h2 r0 r1 r2 : Int32) (hcs : H[0]? = some (.inr (.int, [.int c0, .int c1, .int c2]))) (hh : H[1]? = some (.inr (.int, [.int h0, .int h1, .int h2]))) (hr : H[2]? = some (.inr (.int, [.int r0, .int r1, .int r2]))) (hP0 : 0 ≤ Pa.toInt) (hP : Pa.toInt ≤ 2147483646) (p0 : 0 ≤ c0.toInt) (p1 : 0 ≤ c1.toInt) (p2 : 0 ≤ c2.toInt) :
    Met Z a0 n0 M2 3 50 8 86 [.int Pa, .ref (n0 + 0), .ref (n0 + 1), .ref (n0 + 2)] H (own_Q2 n0 H Pa c0 c1 c2 h0 h1 h2 r0 r1 r2) := by
  refine MetW.intro [.val (.int Pa), .val (.ref (n0 + 0)), .val (.ref (n0 + 1)), .val (.ref (n0 + 2)), .unset, .unset, .unset, .unset, .unset, .unset, .unset, .unset, .unset] pn2 rfl ?_
  refine go_aloadN i2_0 rfl ?_
  refine go_ldcS (n := 16) i2_1 (hw _ (List.mem_of_getElem? (i := 10) rfl)) (own_S hw) (by decide) (by decide) (by decide) (by decide) (fun aa ga hga => ?_)
  refine go_static i2_3 (met3 hw _ _ _) (hw _ (List.mem_of_getElem? (i := 18) rfl)) (hw _ (List.mem_of_getElem? (i := 19) rfl)) (hw _ (List.mem_of_getElem? (i := 20) rfl)) (hw _ (List.mem_of_getElem? (i := 21) rfl)) rfl pd3 rfl rfl rfl (by first | decide | exact Nat.le_of_ble_eq_true rfl | (simp only [room_1]; omega)) (by first | decide | exact Nat.le_of_ble_eq_true rfl | (simp only [room_1]; omega)) (by first | decide | exact Nat.le_of_ble_eq_true rfl | (simp only [room_1]; omega)) (by first | decide | exact Nat.le_of_ble_eq_true rfl | (simp only [room_1]; omega)) (retE rfl ?_)
  refine go_pop i2_6 rfl ?_
  refine go_aloadN i2_7 rfl ?_
  refine go_ldcS (n := 16) i2_8 (hw _ (List.mem_of_getElem? (i := 22) rfl)) (own_S hw) (by decide) (by decide) (by simp only [room_1]; omega) (by decide) (fun ab gb hgb => ?_)
  refine go_static i2_10 (met3 hw _ _ _) (hw _ (List.mem_of_getElem? (i := 18) rfl)) (hw _ (List.mem_of_getElem? (i := 19) rfl)) (hw _ (List.mem_of_getElem? (i := 20) rfl)) (hw _ (List.mem_of_getElem? (i := 21) rfl)) rfl pd3 rfl rfl rfl (by first | decide | exact Nat.le_of_ble_eq_true rfl | (simp only [room_1]; omega)) (by first | decide | exact Nat.le_of_ble_eq_true rfl | (simp only [room_1]; omega)) (by first | decide | exact Nat.le_of_ble_eq_true rfl | (simp only [room_1]; omega)) (by first | decide | exact Nat.le_of_ble_eq_true rfl | (simp only [room_1]; omega)) (retE rfl ?_)
  refine go_pop i2_13 rfl ?_
  refine go_aloadN i2_14 rfl ?_
  refine go_ldcS (n := 36) i2_15 (hw _ (List.mem_of_getElem? (i := 23) rfl)) (own_S hw) (by decide) (by decide) (by simp only [room_1]; omega) (by decide) (fun ac gc hgc => ?_)
  refine go_static i2_17 (met3 hw _ _ _) (hw _ (List.mem_of_getElem? (i := 18) rfl)) (hw _ (List.mem_of_getElem? (i := 19) rfl)) (hw _ (List.mem_of_getElem? (i := 20) rfl)) (hw _ (List.mem_of_getElem? (i := 21) rfl)) rfl pd3 rfl rfl rfl (by first | decide | exact Nat.le_of_ble_eq_true rfl | (simp only [room_1]; omega)) (by first | decide | exact Nat.le_of_ble_eq_true rfl | (simp only [room_1]; omega)) (by first | decide | exact Nat.le_of_ble_eq_true rfl | (simp only [room_1]; omega)) (by first | decide | exact Nat.le_of_ble_eq_true rfl | (simp only [room_1]; omega)) (retE rfl ?_)
  refine go_pop i2_20 rfl ?_
  refine g21 hw _ _ Pa c0 c1 c2 h0 h1 h2 r0 r1 r2 _ (own_app _ (own_app _ (own_app _ hcs))) (own_app _ (own_app _ (own_app _ hh))) (own_app _ (own_app _ (own_app _ hr))) (by omega) hP0 hP p0 p1 p2 (fun s0 s1 s2 X q => ?_)
  refine ⟨_, ga + gb + gc + 2, s0, s1, s2, rfl, by simp <;> omega, by omega, own_at2 _ _ _, fun j oo hj => own_app _ (own_app _ (own_app _ (own_app _ (own_app _ hj)))), q⟩
abbrev own_P : Option Value → List GObj → Prop := fun v _ => v = some (.int 1)
theorem g211 (hw : ∀ d ∈ tables_1, d.before a0 Z = true) (H : List GObj) (s0' s1' s2' s3' s4' s5' s6' s7' s8' s9' s15' s16' : Slot) (Pa l0 l1 l2 h0 h1 h2 r0 r1 r2 s0 s1 s2 : Int32) (w : Int64) (k ce sl : Nat) (hce : ce ≤ 12) (hsl : sl ≤ 200) (hs : H[k]? = some (.inr (.int, [.int s0, .int s1, .int s2]))) (hl : H[3]? = some (.inr (.int, [.int l0, .int l1, .int l2]))) (hh : H[1]? = some (.inr (.int, [.int h0, .int h1, .int h2]))) (hr : H[2]? = some (.inr (.int, [.int r0, .int r1, .int r2]))) (hw1 : w.toInt = min Pa.toInt (l0.toInt + l1.toInt + l2.toInt))
    (hsp : own_sp Pa.toInt l0.toInt l1.toInt l2.toInt h0.toInt h1.toInt h2.toInt r0.toInt r1.toInt r2.toInt s0.toInt s1.toInt s2.toInt) : Go Z a0 n0 M0 room_1 own_P 211 [s0', s1', s2', s3', s4', s5', s6', s7', s8', s9', .val (.int Pa), .val (.ref (n0 + 0)), .val (.ref (n0 + 1)), .val (.ref (n0 + 2)), .val (.ref (n0 + 3)), s15', s16', .val (.long w), .second, .val (.ref (n0 + k)), .unset] [] H ce sl := by
  obtain ⟨q1, ⟨q2, q3⟩, ⟨q4, q5⟩, ⟨q6, q7⟩, a01, a10, a02, a20, a12, a21⟩ := hsp
  have hq := own_l3 s0 s1 s2
  refine go_aload i0_211 rfl ?_
  refine go_ifnull i0_213 ?_
  refine go_aload i0_216 rfl ?_
  refine go_arraylength i0_218 hs (n := 3) rfl ?_
  refine go_iconst (v := (3 : Int32)) i0_219 (by decide) ?_
  refine go_icmpT 225 i0_220 (by decide) (by decide) ?_
  refine go_aload i0_225 rfl ?_
  refine go_iconst (v := (0 : Int32)) i0_227 (by decide) ?_
  refine go_iaload i0_228 hs (i := 0) (by decide) rfl ?_
  refine go_i2l i0_229 ?_
  refine go_aload i0_230 rfl ?_
  refine go_iconst (v := (1 : Int32)) i0_232 (by decide) ?_
  refine go_iaload i0_233 hs (i := 1) (by decide) rfl ?_
  refine go_i2l i0_234 ?_
  refine go_ladd i0_235 ?_
  refine go_aload i0_236 rfl ?_
  refine go_iconst (v := (2 : Int32)) i0_238 (by decide) ?_
  refine go_iaload i0_239 hs (i := 2) (by decide) rfl ?_
  refine go_i2l i0_240 ?_
  refine go_ladd i0_241 ?_
  refine go_lload i0_242 rfl ?_
  refine go_lcmp i0_244 ?_
  refine go_ifF i0_245 ((if0 _ _).trans ((hold_ne _ _).2.mpr ((cmp_eq _ _).mpr (by rw [hq, hw1, q1])))) ?_
  refine go_iconst (v := (1 : Int32)) i0_248 (by decide) ?_
  refine go_goto 253 i0_249 (by decide) ?_
  refine go_istore20 i0_253 (by first | exact One.u | exact One.val rfl) ?_
  refine go_iload i0_255 rfl ?_
  refine go_ifF i0_257 (by decide) ?_
  refine go_aload i0_260 rfl ?_
  refine go_aload i0_262 rfl ?_
  refine go_iconst (v := (0 : Int32)) i0_264 (by decide) ?_
  refine go_static i0_265 (met7 hw H k 3 _ _ 0 s0 l0 0 (by decide) hs hl rfl rfl q2 q3) (hw _ (List.mem_of_getElem? (i := 34) rfl)) (hw _ (List.mem_of_getElem? (i := 35) rfl)) (hw _ (List.mem_of_getElem? (i := 36) rfl)) (hw _ (List.mem_of_getElem? (i := 37) rfl)) rfl pd7 rfl rfl rfl (by first | decide | exact Nat.le_of_ble_eq_true rfl | (simp only [room_1]; omega)) (by first | decide | exact Nat.le_of_ble_eq_true rfl | (simp only [room_1]; omega)) (by first | decide | exact Nat.le_of_ble_eq_true rfl | (simp only [room_1]; omega)) (by first | decide | exact Nat.le_of_ble_eq_true rfl | (simp only [room_1]; omega)) (retE rfl ?_)
  refine go_ifF i0_268 (by decide) ?_
  refine go_aload i0_271 rfl ?_
  refine go_aload i0_273 rfl ?_
  refine go_iconst (v := (1 : Int32)) i0_275 (by decide) ?_
  refine go_static i0_276 (met7 hw H k 3 _ _ 1 s1 l1 1 (by decide) hs hl rfl rfl q4 q5) (hw _ (List.mem_of_getElem? (i := 34) rfl)) (hw _ (List.mem_of_getElem? (i := 35) rfl)) (hw _ (List.mem_of_getElem? (i := 36) rfl)) (hw _ (List.mem_of_getElem? (i := 37) rfl)) rfl pd7 rfl rfl rfl (by first | decide | exact Nat.le_of_ble_eq_true rfl | (simp only [room_1]; omega)) (by first | decide | exact Nat.le_of_ble_eq_true rfl | (simp only [room_1]; omega)) (by first | decide | exact Nat.le_of_ble_eq_true rfl | (simp only [room_1]; omega)) (by first | decide | exact Nat.le_of_ble_eq_true rfl | (simp only [room_1]; omega)) (retE rfl ?_)
  refine go_ifF i0_279 (by decide) ?_
  refine go_aload i0_282 rfl ?_
  refine go_aload i0_284 rfl ?_
  refine go_iconst (v := (2 : Int32)) i0_286 (by decide) ?_
  refine go_static i0_287 (met7 hw H k 3 _ _ 2 s2 l2 2 (by decide) hs hl rfl rfl q6 q7) (hw _ (List.mem_of_getElem? (i := 34) rfl)) (hw _ (List.mem_of_getElem? (i := 35) rfl)) (hw _ (List.mem_of_getElem? (i := 36) rfl)) (hw _ (List.mem_of_getElem? (i := 37) rfl)) rfl pd7 rfl rfl rfl (by first | decide | exact Nat.le_of_ble_eq_true rfl | (simp only [room_1]; omega)) (by first | decide | exact Nat.le_of_ble_eq_true rfl | (simp only [room_1]; omega)) (by first | decide | exact Nat.le_of_ble_eq_true rfl | (simp only [room_1]; omega)) (by first | decide | exact Nat.le_of_ble_eq_true rfl | (simp only [room_1]; omega)) (retE rfl ?_)
  refine go_ifF i0_290 (by decide) ?_
  refine go_iconst (v := (1 : Int32)) i0_293 (by decide) ?_
  refine go_goto 298 i0_294 (by decide) ?_
  refine go_istore20 i0_298 (by first | exact One.u | exact One.val rfl) ?_
  refine go_iload i0_300 rfl ?_
  refine go_ifF i0_302 (by decide) ?_
  refine go_aload i0_305 rfl ?_
  refine go_aload i0_307 rfl ?_
  refine go_aload i0_309 rfl ?_
  refine go_aload i0_311 rfl ?_
  refine go_iconst (v := (0 : Int32)) i0_313 (by decide) ?_
  refine go_iconst (v := (1 : Int32)) i0_314 (by decide) ?_
  refine go_static i0_315 (met8 hw H k 3 1 2 _ _ _ _ 0 1 s0 s1 l0 l1 h0 r0 h1 r1 0 1 (by decide) (by decide) hs hl hh hr rfl rfl rfl rfl rfl rfl rfl rfl a01) (hw _ (List.mem_of_getElem? (i := 38) rfl)) (hw _ (List.mem_of_getElem? (i := 39) rfl)) (hw _ (List.mem_of_getElem? (i := 36) rfl)) (hw _ (List.mem_of_getElem? (i := 40) rfl)) rfl pd8 rfl rfl rfl (by first | decide | exact Nat.le_of_ble_eq_true rfl | (simp only [room_1]; omega)) (by first | decide | exact Nat.le_of_ble_eq_true rfl | (simp only [room_1]; omega)) (by first | decide | exact Nat.le_of_ble_eq_true rfl | (simp only [room_1]; omega)) (by first | decide | exact Nat.le_of_ble_eq_true rfl | (simp only [room_1]; omega)) (retE rfl ?_)
  refine go_ifF i0_318 (by decide) ?_
  refine go_aload i0_321 rfl ?_
  refine go_aload i0_323 rfl ?_
  refine go_aload i0_325 rfl ?_
  refine go_aload i0_327 rfl ?_
  refine go_iconst (v := (1 : Int32)) i0_329 (by decide) ?_
  refine go_iconst (v := (0 : Int32)) i0_330 (by decide) ?_
  refine go_static i0_331 (met8 hw H k 3 1 2 _ _ _ _ 1 0 s1 s0 l1 l0 h1 r1 h0 r0 1 0 (by decide) (by decide) hs hl hh hr rfl rfl rfl rfl rfl rfl rfl rfl a10) (hw _ (List.mem_of_getElem? (i := 38) rfl)) (hw _ (List.mem_of_getElem? (i := 39) rfl)) (hw _ (List.mem_of_getElem? (i := 36) rfl)) (hw _ (List.mem_of_getElem? (i := 40) rfl)) rfl pd8 rfl rfl rfl (by first | decide | exact Nat.le_of_ble_eq_true rfl | (simp only [room_1]; omega)) (by first | decide | exact Nat.le_of_ble_eq_true rfl | (simp only [room_1]; omega)) (by first | decide | exact Nat.le_of_ble_eq_true rfl | (simp only [room_1]; omega)) (by first | decide | exact Nat.le_of_ble_eq_true rfl | (simp only [room_1]; omega)) (retE rfl ?_)
  refine go_ifF i0_334 (by decide) ?_
  refine go_iconst (v := (1 : Int32)) i0_337 (by decide) ?_
  refine go_goto 342 i0_338 (by decide) ?_
  refine go_istore20 i0_342 (by first | exact One.u | exact One.val rfl) ?_
  refine go_iload i0_344 rfl ?_
  refine go_ifF i0_346 (by decide) ?_
  refine go_aload i0_349 rfl ?_
  refine go_aload i0_351 rfl ?_
  refine go_aload i0_353 rfl ?_
  refine go_aload i0_355 rfl ?_
  refine go_iconst (v := (0 : Int32)) i0_357 (by decide) ?_
  refine go_iconst (v := (2 : Int32)) i0_358 (by decide) ?_
  refine go_static i0_359 (met8 hw H k 3 1 2 _ _ _ _ 0 2 s0 s2 l0 l2 h0 r0 h2 r2 0 2 (by decide) (by decide) hs hl hh hr rfl rfl rfl rfl rfl rfl rfl rfl a02) (hw _ (List.mem_of_getElem? (i := 38) rfl)) (hw _ (List.mem_of_getElem? (i := 39) rfl)) (hw _ (List.mem_of_getElem? (i := 36) rfl)) (hw _ (List.mem_of_getElem? (i := 40) rfl)) rfl pd8 rfl rfl rfl (by first | decide | exact Nat.le_of_ble_eq_true rfl | (simp only [room_1]; omega)) (by first | decide | exact Nat.le_of_ble_eq_true rfl | (simp only [room_1]; omega)) (by first | decide | exact Nat.le_of_ble_eq_true rfl | (simp only [room_1]; omega)) (by first | decide | exact Nat.le_of_ble_eq_true rfl | (simp only [room_1]; omega)) (retE rfl ?_)
  refine go_ifF i0_362 (by decide) ?_
  refine go_aload i0_365 rfl ?_
  refine go_aload i0_367 rfl ?_
  refine go_aload i0_369 rfl ?_
  refine go_aload i0_371 rfl ?_
  refine go_iconst (v := (2 : Int32)) i0_373 (by decide) ?_
  refine go_iconst (v := (0 : Int32)) i0_374 (by decide) ?_
  refine go_static i0_375 (met8 hw H k 3 1 2 _ _ _ _ 2 0 s2 s0 l2 l0 h2 r2 h0 r0 2 0 (by decide) (by decide) hs hl hh hr rfl rfl rfl rfl rfl rfl rfl rfl a20) (hw _ (List.mem_of_getElem? (i := 38) rfl)) (hw _ (List.mem_of_getElem? (i := 39) rfl)) (hw _ (List.mem_of_getElem? (i := 36) rfl)) (hw _ (List.mem_of_getElem? (i := 40) rfl)) rfl pd8 rfl rfl rfl (by first | decide | exact Nat.le_of_ble_eq_true rfl | (simp only [room_1]; omega)) (by first | decide | exact Nat.le_of_ble_eq_true rfl | (simp only [room_1]; omega)) (by first | decide | exact Nat.le_of_ble_eq_true rfl | (simp only [room_1]; omega)) (by first | decide | exact Nat.le_of_ble_eq_true rfl | (simp only [room_1]; omega)) (retE rfl ?_)
  refine go_ifF i0_378 (by decide) ?_
  refine go_iconst (v := (1 : Int32)) i0_381 (by decide) ?_
  refine go_goto 386 i0_382 (by decide) ?_
  refine go_istore20 i0_386 (by first | exact One.u | exact One.val rfl) ?_
  refine go_iload i0_388 rfl ?_
  refine go_ifF i0_390 (by decide) ?_
  refine go_aload i0_393 rfl ?_
  refine go_aload i0_395 rfl ?_
  refine go_aload i0_397 rfl ?_
  refine go_aload i0_399 rfl ?_
  refine go_iconst (v := (1 : Int32)) i0_401 (by decide) ?_
  refine go_iconst (v := (2 : Int32)) i0_402 (by decide) ?_
  refine go_static i0_403 (met8 hw H k 3 1 2 _ _ _ _ 1 2 s1 s2 l1 l2 h1 r1 h2 r2 1 2 (by decide) (by decide) hs hl hh hr rfl rfl rfl rfl rfl rfl rfl rfl a12) (hw _ (List.mem_of_getElem? (i := 38) rfl)) (hw _ (List.mem_of_getElem? (i := 39) rfl)) (hw _ (List.mem_of_getElem? (i := 36) rfl)) (hw _ (List.mem_of_getElem? (i := 40) rfl)) rfl pd8 rfl rfl rfl (by first | decide | exact Nat.le_of_ble_eq_true rfl | (simp only [room_1]; omega)) (by first | decide | exact Nat.le_of_ble_eq_true rfl | (simp only [room_1]; omega)) (by first | decide | exact Nat.le_of_ble_eq_true rfl | (simp only [room_1]; omega)) (by first | decide | exact Nat.le_of_ble_eq_true rfl | (simp only [room_1]; omega)) (retE rfl ?_)
  refine go_ifF i0_406 (by decide) ?_
  refine go_aload i0_409 rfl ?_
  refine go_aload i0_411 rfl ?_
  refine go_aload i0_413 rfl ?_
  refine go_aload i0_415 rfl ?_
  refine go_iconst (v := (2 : Int32)) i0_417 (by decide) ?_
  refine go_iconst (v := (1 : Int32)) i0_418 (by decide) ?_
  refine go_static i0_419 (met8 hw H k 3 1 2 _ _ _ _ 2 1 s2 s1 l2 l1 h2 r2 h1 r1 2 1 (by decide) (by decide) hs hl hh hr rfl rfl rfl rfl rfl rfl rfl rfl a21) (hw _ (List.mem_of_getElem? (i := 38) rfl)) (hw _ (List.mem_of_getElem? (i := 39) rfl)) (hw _ (List.mem_of_getElem? (i := 36) rfl)) (hw _ (List.mem_of_getElem? (i := 40) rfl)) rfl pd8 rfl rfl rfl (by first | decide | exact Nat.le_of_ble_eq_true rfl | (simp only [room_1]; omega)) (by first | decide | exact Nat.le_of_ble_eq_true rfl | (simp only [room_1]; omega)) (by first | decide | exact Nat.le_of_ble_eq_true rfl | (simp only [room_1]; omega)) (by first | decide | exact Nat.le_of_ble_eq_true rfl | (simp only [room_1]; omega)) (retE rfl ?_)
  refine go_ifF i0_422 (by decide) ?_
  refine go_iconst (v := (1 : Int32)) i0_425 (by decide) ?_
  refine go_goto 430 i0_426 (by decide) ?_
  refine go_istore20 i0_430 (by first | exact One.u | exact One.val rfl) ?_
  refine go_iload i0_432 rfl ?_
  refine go_ireturn i0_434 rfl rfl (Or.inr (Or.inl rfl)) (by first | decide | exact Nat.le_of_ble_eq_true rfl | (simp only [room_1]; omega)) (by first | decide | exact Nat.le_of_ble_eq_true rfl | (simp only [room_1]; omega)) ?_
  rfl
theorem g169 (hw : ∀ d ∈ tables_1, d.before a0 Z = true) (s0' s1' s2' s3' s4' s5' s6' s7' s8' s9' : Slot) (Pa c0 c1 c2 h0 h1 h2 r0 r1 r2 : Int32) (hP0 : 0 ≤ Pa.toInt) (hP : Pa.toInt ≤ 2147483646) (p0 : 0 ≤ c0.toInt) (p1 : 0 ≤ c1.toInt) (p2 : 0 ≤ c2.toInt) : Go Z a0 n0 M0 room_1 own_P 169 [s0', s1', s2', s3', s4', s5', s6', s7', s8', s9', .val (.int Pa), .val (.ref (n0 + 0)), .val (.ref (n0 + 1)), .val (.ref (n0 + 2)), .val (.ref (n0 + 3)), .unset, .unset, .unset, .unset, .unset, .unset] [] [.inr (.int, [.int c0, .int c1, .int c2]), .inr (.int, [.int h0, .int h1, .int h2]), .inr (.int, [.int r0, .int r1, .int r2]), .inr (.int, [.int (own_lim Pa c0), .int (own_lim Pa c1), .int (own_lim Pa c2)])] 4 12 := by
  have hq := own_l3 (own_lim Pa c0) (own_lim Pa c1) (own_lim Pa c2)
  refine go_aload i0_169 rfl ?_
  refine go_iconst (v := (0 : Int32)) i0_171 (by decide) ?_
  refine go_iaload (i := 0) i0_172 rfl (by decide) rfl ?_
  refine go_i2l i0_173 ?_
  refine go_aload i0_174 rfl ?_
  refine go_iconst (v := (1 : Int32)) i0_176 (by decide) ?_
  refine go_iaload (i := 1) i0_177 rfl (by decide) rfl ?_
  refine go_i2l i0_178 ?_
  refine go_ladd i0_179 ?_
  refine go_aload i0_180 rfl ?_
  refine go_iconst (v := (2 : Int32)) i0_182 (by decide) ?_
  refine go_iaload (i := 2) i0_183 rfl (by decide) rfl ?_
  refine go_i2l i0_184 ?_
  refine go_ladd i0_185 ?_
  refine go_lstore15 i0_186 (by first | exact Or.inl ⟨One.u, One.u⟩ | exact Or.inr ⟨_, rfl, rfl⟩ | exact Or.inl ⟨One.val rfl, One.u⟩ | exact Or.inl ⟨One.u, One.val rfl⟩ | exact Or.inl ⟨One.val rfl, One.val rfl⟩) ?_
  refine go_iload i0_188 rfl ?_
  refine go_i2l i0_190 ?_
  refine go_lload i0_191 rfl ?_
  refine go_static i0_193 (met1 hw _ _ _) (hw _ (List.mem_of_getElem? (i := 2) rfl)) (hw _ (List.mem_of_getElem? (i := 3) rfl)) (hw _ (List.mem_of_getElem? (i := 4) rfl)) (hw _ (List.mem_of_getElem? (i := 5) rfl)) rfl pd1 rfl rfl rfl (by first | decide | exact Nat.le_of_ble_eq_true rfl | (simp only [room_1]; omega)) (by first | decide | exact Nat.le_of_ble_eq_true rfl | (simp only [room_1]; omega)) (by first | decide | exact Nat.le_of_ble_eq_true rfl | (simp only [room_1]; omega)) (by first | decide | exact Nat.le_of_ble_eq_true rfl | (simp only [room_1]; omega)) ?_
  rintro _ _ ⟨⟨w, rfl, hw1⟩, rfl⟩
  refine ⟨rfl, ?_⟩
  rw [c_i2l, hq] at hw1
  refine go_lstore17 i0_196 (by first | exact Or.inl ⟨One.u, One.u⟩ | exact Or.inr ⟨_, rfl, rfl⟩ | exact Or.inl ⟨One.val rfl, One.u⟩ | exact Or.inl ⟨One.u, One.val rfl⟩ | exact Or.inl ⟨One.val rfl, One.val rfl⟩) ?_
  refine go_iload i0_198 rfl ?_
  refine go_aload i0_200 rfl ?_
  refine go_aload i0_202 rfl ?_
  refine go_aload i0_204 rfl ?_
  refine go_staticV i0_206 (met2 hw _ Pa c0 c1 c2 h0 h1 h2 r0 r1 r2 rfl rfl rfl hP0 hP p0 p1 p2) (hw _ (List.mem_of_getElem? (i := 6) rfl)) (hw _ (List.mem_of_getElem? (i := 7) rfl)) (hw _ (List.mem_of_getElem? (i := 8) rfl)) (hw _ (List.mem_of_getElem? (i := 9) rfl)) rfl pd2 rfl rfl rfl (by first | decide | exact Nat.le_of_ble_eq_true rfl | (simp only [room_1]; omega)) (by first | decide | exact Nat.le_of_ble_eq_true rfl | (simp only [room_1]; omega)) (by first | decide | exact Nat.le_of_ble_eq_true rfl | (simp only [room_1]; omega)) (by first | decide | exact Nat.le_of_ble_eq_true rfl | (simp only [room_1]; omega)) ?_
  rintro _ H' ⟨k, g, s0, s1, s2, rfl, hlen, hg, hk, hkeep, hsp⟩
  refine ⟨g, hlen, ?_⟩
  refine go_astore19 i0_209 (by first | exact One.u | exact One.val rfl) ?_
  exact g211 hw H' _ _ _ _ _ _ _ _ _ _ _ _ Pa (own_lim Pa c0) (own_lim Pa c1) (own_lim Pa c2) h0 h1 h2 r0 r1 r2 s0 s1 s2 w k (4 + g) _ (by omega) (by decide) hk (hkeep 3 _ rfl) (hkeep 1 _ rfl) (hkeep 2 _ rfl) hw1 hsp
theorem g149 (hw : ∀ d ∈ tables_1, d.before a0 Z = true) (s0' s1' s2' s3' s4' s5' s6' s7' s8' s9' : Slot) (Pa c0 c1 c2 h0 h1 h2 r0 r1 r2 : Int32) (hP0 : 0 ≤ Pa.toInt) (hP : Pa.toInt ≤ 2147483646) (p0 : 0 ≤ c0.toInt) (p1 : 0 ≤ c1.toInt) (p2 : 0 ≤ c2.toInt) : Go Z a0 n0 M0 room_1 own_P 149 [s0', s1', s2', s3', s4', s5', s6', s7', s8', s9', .val (.int Pa), .val (.ref (n0 + 0)), .val (.ref (n0 + 1)), .val (.ref (n0 + 2)), .val (.ref (n0 + 3)), .unset, .unset, .unset, .unset, .unset, .unset] [] [.inr (.int, [.int c0, .int c1, .int c2]), .inr (.int, [.int h0, .int h1, .int h2]), .inr (.int, [.int r0, .int r1, .int r2]), .inr (.int, [.int (own_lim Pa c0), .int (own_lim Pa c1), .int 0])] 4 12 := by
  have nx : ∀ d : Int32, d = own_lim Pa c2 → Go Z a0 n0 M0 room_1 own_P 168 [s0', s1', s2', s3', s4', s5', s6', s7', s8', s9', .val (.int Pa), .val (.ref (n0 + 0)), .val (.ref (n0 + 1)), .val (.ref (n0 + 2)), .val (.ref (n0 + 3)), .unset, .unset, .unset, .unset, .unset, .unset] [.int d, .int 2, .ref (n0 + 3)] [.inr (.int, [.int c0, .int c1, .int c2]), .inr (.int, [.int h0, .int h1, .int h2]), .inr (.int, [.int r0, .int r1, .int r2]), .inr (.int, [.int (own_lim Pa c0), .int (own_lim Pa c1), .int 0])] 4 12 := by
    intro d hd
    subst hd
    refine go_iastore i0_168 rfl (i := 2) (by decide) rfl ?_
    exact g169 hw s0' s1' s2' s3' s4' s5' s6' s7' s8' s9' Pa c0 c1 c2 h0 h1 h2 r0 r1 r2 hP0 hP p0 p1 p2
  refine go_aload i0_149 rfl ?_
  refine go_iconst (v := (2 : Int32)) i0_151 (by decide) ?_
  refine go_aload i0_152 rfl ?_
  refine go_iconst (v := (2 : Int32)) i0_154 (by decide) ?_
  refine go_iaload (i := 2) i0_155 rfl (by decide) rfl ?_
  refine go_if_ne 164 i0_156 (by decide) (fun g => ?_) (fun g => ?_)
  · refine go_aload i0_164 rfl ?_
    refine go_iconst (v := (2 : Int32)) i0_166 (by decide) ?_
    refine go_iaload (i := 2) i0_167 rfl (by decide) rfl ?_
    exact nx _ (by rw [own_lim, if_neg g])
  · refine go_iload i0_159 rfl ?_
    refine go_goto 168 i0_161 (by decide) ?_
    exact nx _ (by rw [own_lim, if_pos g])
theorem g129 (hw : ∀ d ∈ tables_1, d.before a0 Z = true) (s0' s1' s2' s3' s4' s5' s6' s7' s8' s9' : Slot) (Pa c0 c1 c2 h0 h1 h2 r0 r1 r2 : Int32) (hP0 : 0 ≤ Pa.toInt) (hP : Pa.toInt ≤ 2147483646) (p0 : 0 ≤ c0.toInt) (p1 : 0 ≤ c1.toInt) (p2 : 0 ≤ c2.toInt) : Go Z a0 n0 M0 room_1 own_P 129 [s0', s1', s2', s3', s4', s5', s6', s7', s8', s9', .val (.int Pa), .val (.ref (n0 + 0)), .val (.ref (n0 + 1)), .val (.ref (n0 + 2)), .val (.ref (n0 + 3)), .unset, .unset, .unset, .unset, .unset, .unset] [] [.inr (.int, [.int c0, .int c1, .int c2]), .inr (.int, [.int h0, .int h1, .int h2]), .inr (.int, [.int r0, .int r1, .int r2]), .inr (.int, [.int (own_lim Pa c0), .int 0, .int 0])] 4 12 := by
  have nx : ∀ d : Int32, d = own_lim Pa c1 → Go Z a0 n0 M0 room_1 own_P 148 [s0', s1', s2', s3', s4', s5', s6', s7', s8', s9', .val (.int Pa), .val (.ref (n0 + 0)), .val (.ref (n0 + 1)), .val (.ref (n0 + 2)), .val (.ref (n0 + 3)), .unset, .unset, .unset, .unset, .unset, .unset] [.int d, .int 1, .ref (n0 + 3)] [.inr (.int, [.int c0, .int c1, .int c2]), .inr (.int, [.int h0, .int h1, .int h2]), .inr (.int, [.int r0, .int r1, .int r2]), .inr (.int, [.int (own_lim Pa c0), .int 0, .int 0])] 4 12 := by
    intro d hd
    subst hd
    refine go_iastore i0_148 rfl (i := 1) (by decide) rfl ?_
    exact g149 hw s0' s1' s2' s3' s4' s5' s6' s7' s8' s9' Pa c0 c1 c2 h0 h1 h2 r0 r1 r2 hP0 hP p0 p1 p2
  refine go_aload i0_129 rfl ?_
  refine go_iconst (v := (1 : Int32)) i0_131 (by decide) ?_
  refine go_aload i0_132 rfl ?_
  refine go_iconst (v := (1 : Int32)) i0_134 (by decide) ?_
  refine go_iaload (i := 1) i0_135 rfl (by decide) rfl ?_
  refine go_if_ne 144 i0_136 (by decide) (fun g => ?_) (fun g => ?_)
  · refine go_aload i0_144 rfl ?_
    refine go_iconst (v := (1 : Int32)) i0_146 (by decide) ?_
    refine go_iaload (i := 1) i0_147 rfl (by decide) rfl ?_
    exact nx _ (by rw [own_lim, if_neg g])
  · refine go_iload i0_139 rfl ?_
    refine go_goto 148 i0_141 (by decide) ?_
    exact nx _ (by rw [own_lim, if_pos g])
theorem g109 (hw : ∀ d ∈ tables_1, d.before a0 Z = true) (s0' s1' s2' s3' s4' s5' s6' s7' s8' s9' : Slot) (Pa c0 c1 c2 h0 h1 h2 r0 r1 r2 : Int32) (hP0 : 0 ≤ Pa.toInt) (hP : Pa.toInt ≤ 2147483646) (p0 : 0 ≤ c0.toInt) (p1 : 0 ≤ c1.toInt) (p2 : 0 ≤ c2.toInt) : Go Z a0 n0 M0 room_1 own_P 109 [s0', s1', s2', s3', s4', s5', s6', s7', s8', s9', .val (.int Pa), .val (.ref (n0 + 0)), .val (.ref (n0 + 1)), .val (.ref (n0 + 2)), .val (.ref (n0 + 3)), .unset, .unset, .unset, .unset, .unset, .unset] [] [.inr (.int, [.int c0, .int c1, .int c2]), .inr (.int, [.int h0, .int h1, .int h2]), .inr (.int, [.int r0, .int r1, .int r2]), .inr (.int, [.int 0, .int 0, .int 0])] 4 12 := by
  have nx : ∀ d : Int32, d = own_lim Pa c0 → Go Z a0 n0 M0 room_1 own_P 128 [s0', s1', s2', s3', s4', s5', s6', s7', s8', s9', .val (.int Pa), .val (.ref (n0 + 0)), .val (.ref (n0 + 1)), .val (.ref (n0 + 2)), .val (.ref (n0 + 3)), .unset, .unset, .unset, .unset, .unset, .unset] [.int d, .int 0, .ref (n0 + 3)] [.inr (.int, [.int c0, .int c1, .int c2]), .inr (.int, [.int h0, .int h1, .int h2]), .inr (.int, [.int r0, .int r1, .int r2]), .inr (.int, [.int 0, .int 0, .int 0])] 4 12 := by
    intro d hd
    subst hd
    refine go_iastore i0_128 rfl (i := 0) (by decide) rfl ?_
    exact g129 hw s0' s1' s2' s3' s4' s5' s6' s7' s8' s9' Pa c0 c1 c2 h0 h1 h2 r0 r1 r2 hP0 hP p0 p1 p2
  refine go_aload i0_109 rfl ?_
  refine go_iconst (v := (0 : Int32)) i0_111 (by decide) ?_
  refine go_aload i0_112 rfl ?_
  refine go_iconst (v := (0 : Int32)) i0_114 (by decide) ?_
  refine go_iaload (i := 0) i0_115 rfl (by decide) rfl ?_
  refine go_if_ne 124 i0_116 (by decide) (fun g => ?_) (fun g => ?_)
  · refine go_aload i0_124 rfl ?_
    refine go_iconst (v := (0 : Int32)) i0_126 (by decide) ?_
    refine go_iaload (i := 0) i0_127 rfl (by decide) rfl ?_
    exact nx _ (by rw [own_lim, if_neg g])
  · refine go_iload i0_119 rfl ?_
    refine go_goto 128 i0_121 (by decide) ?_
    exact nx _ (by rw [own_lim, if_pos g])
theorem law_met (Z : State) (a0 : Array Value) (n0 : Nat) (hw : ∀ d ∈ tables_1, d.before a0 Z = true) (a b c : Int64) (d : Int32) (e : Int64) (f : Int32) : MetW Z a0 n0 M0 tables_1 room_1 [.long a, .long b, .long c, .int d, .long e, .int f] [] (fun v _ => v = some (.int 1)) := by
  refine MetW.intro [.val (.long a), .second, .val (.long b), .second, .val (.long c), .second, .val (.int d), .val (.long e), .second, .val (.int f), .unset, .unset, .unset, .unset, .unset, .unset, .unset, .unset, .unset, .unset, .unset] pn0 rfl ?_
  have mk : ∀ x : Int32, 0 ≤ (x &&& 2147483647).toInt := by
    intro x
    have := c_mask x 2147483647 31 (by decide) (by decide)
    omega
  have hp := (c_irem (a.toInt32 &&& 2147483647) 2147483647 2147483647 (by decide)).1 (mk _)
  have hp' := mk a.toInt32
  refine go_lloadN i0_0 rfl ?_
  refine go_l2i i0_1 ?_
  refine go_ldc i0_2 (hw _ (List.mem_of_getElem? (i := 0) rfl)) ?_
  refine go_iand i0_4 ?_
  refine go_ldc i0_5 (hw _ (List.mem_of_getElem? (i := 0) rfl)) ?_
  refine go_irem i0_7 (by decide) ?_
  refine go_istore10 i0_8 (by first | exact One.u | exact One.val rfl) ?_
  generalize (a.toInt32 &&& 2147483647) % 2147483647 = Pa at *
  refine go_iconst (v := (3 : Int32)) i0_10 (by decide) ?_
  refine go_newarray (k := 0) 3 i0_11 rfl (hw _ (List.mem_of_getElem? (i := 1) rfl)) (by decide) rfl (by decide) (by decide) rfl (by first | decide | exact Nat.le_of_ble_eq_true rfl | (simp only [room_1]; omega)) (by first | decide | exact Nat.le_of_ble_eq_true rfl | (simp only [room_1]; omega)) ?_
  refine go_astore11 i0_13 (by first | exact One.u | exact One.val rfl) ?_
  refine go_aload i0_15 rfl ?_
  refine go_iconst (v := (0 : Int32)) i0_17 (by decide) ?_
  refine go_lloadN i0_18 rfl ?_
  refine go_l2i i0_19 ?_
  refine go_ldc i0_20 (hw _ (List.mem_of_getElem? (i := 0) rfl)) ?_
  refine go_iand i0_22 ?_
  refine go_iastore i0_23 rfl (i := 0) (by decide) rfl ?_
  refine go_aload i0_24 rfl ?_
  refine go_iconst (v := (1 : Int32)) i0_26 (by decide) ?_
  refine go_lloadN i0_27 rfl ?_
  refine go_bipush (v := (32 : Int32)) i0_28 (by decide) ?_
  refine go_lushr i0_30 ?_
  refine go_l2i i0_31 ?_
  refine go_ldc i0_32 (hw _ (List.mem_of_getElem? (i := 0) rfl)) ?_
  refine go_iand i0_34 ?_
  refine go_iastore i0_35 rfl (i := 1) (by decide) rfl ?_
  refine go_aload i0_36 rfl ?_
  refine go_iconst (v := (2 : Int32)) i0_38 (by decide) ?_
  refine go_lloadN i0_39 rfl ?_
  refine go_bipush (v := (32 : Int32)) i0_40 (by decide) ?_
  refine go_lushr i0_42 ?_
  refine go_l2i i0_43 ?_
  refine go_ldc i0_44 (hw _ (List.mem_of_getElem? (i := 0) rfl)) ?_
  refine go_iand i0_46 ?_
  refine go_iastore i0_47 rfl (i := 2) (by decide) rfl ?_
  refine go_iconst (v := (3 : Int32)) i0_48 (by decide) ?_
  refine go_newarray (k := 1) 3 i0_49 rfl (hw _ (List.mem_of_getElem? (i := 1) rfl)) (by decide) rfl (by decide) (by decide) rfl (by first | decide | exact Nat.le_of_ble_eq_true rfl | (simp only [room_1]; omega)) (by first | decide | exact Nat.le_of_ble_eq_true rfl | (simp only [room_1]; omega)) ?_
  refine go_astore12 i0_51 (by first | exact One.u | exact One.val rfl) ?_
  refine go_aload i0_53 rfl ?_
  refine go_iconst (v := (0 : Int32)) i0_55 (by decide) ?_
  refine go_lload i0_56 rfl ?_
  refine go_l2i i0_58 ?_
  refine go_iastore i0_59 rfl (i := 0) (by decide) rfl ?_
  refine go_aload i0_60 rfl ?_
  refine go_iconst (v := (1 : Int32)) i0_62 (by decide) ?_
  refine go_lload i0_63 rfl ?_
  refine go_bipush (v := (32 : Int32)) i0_65 (by decide) ?_
  refine go_lushr i0_67 ?_
  refine go_l2i i0_68 ?_
  refine go_iastore i0_69 rfl (i := 1) (by decide) rfl ?_
  refine go_aload i0_70 rfl ?_
  refine go_iconst (v := (2 : Int32)) i0_72 (by decide) ?_
  refine go_iload i0_73 rfl ?_
  refine go_iastore i0_75 rfl (i := 2) (by decide) rfl ?_
  refine go_iconst (v := (3 : Int32)) i0_76 (by decide) ?_
  refine go_newarray (k := 2) 3 i0_77 rfl (hw _ (List.mem_of_getElem? (i := 1) rfl)) (by decide) rfl (by decide) (by decide) rfl (by first | decide | exact Nat.le_of_ble_eq_true rfl | (simp only [room_1]; omega)) (by first | decide | exact Nat.le_of_ble_eq_true rfl | (simp only [room_1]; omega)) ?_
  refine go_astore13 i0_79 (by first | exact One.u | exact One.val rfl) ?_
  refine go_aload i0_81 rfl ?_
  refine go_iconst (v := (0 : Int32)) i0_83 (by decide) ?_
  refine go_lload i0_84 rfl ?_
  refine go_l2i i0_86 ?_
  refine go_iastore i0_87 rfl (i := 0) (by decide) rfl ?_
  refine go_aload i0_88 rfl ?_
  refine go_iconst (v := (1 : Int32)) i0_90 (by decide) ?_
  refine go_lload i0_91 rfl ?_
  refine go_bipush (v := (32 : Int32)) i0_93 (by decide) ?_
  refine go_lushr i0_95 ?_
  refine go_l2i i0_96 ?_
  refine go_iastore i0_97 rfl (i := 1) (by decide) rfl ?_
  refine go_aload i0_98 rfl ?_
  refine go_iconst (v := (2 : Int32)) i0_100 (by decide) ?_
  refine go_iload i0_101 rfl ?_
  refine go_iastore i0_103 rfl (i := 2) (by decide) rfl ?_
  refine go_iconst (v := (3 : Int32)) i0_104 (by decide) ?_
  refine go_newarray (k := 3) 3 i0_105 rfl (hw _ (List.mem_of_getElem? (i := 1) rfl)) (by decide) rfl (by decide) (by decide) rfl (by first | decide | exact Nat.le_of_ble_eq_true rfl | (simp only [room_1]; omega)) (by first | decide | exact Nat.le_of_ble_eq_true rfl | (simp only [room_1]; omega)) ?_
  refine go_astore14 i0_107 (by first | exact One.u | exact One.val rfl) ?_
  exact g109 hw _ _ _ _ _ _ _ _ _ _ Pa _ _ _ _ _ _ _ _ _ (by omega) (by omega) (mk _) (mk _) (mk _)
theorem comes_1 {Post : Tables → Env → Array Value → State → Outcome → State → Prop} (hpost : ∀ tb e args s v u, (limb_1_1.after args s (.returned v) u = true ∧ limb_1_2.after args s (.returned v) u = true ∧ True) → FramedW s (.returned v) u (Jvm.fieldLocs frame_1_writes args s ++ Jvm.arrayLocs frame_1_arrays args s ++ Jvm.staticLocs frame_1_statics s) 32 3200 → Post tb e args s (.returned v) u) :
    ArmFor flags0 classFile x code maxLocals ret World_1 tables_1 room_1 Calls_1 rest_1 Pre_1 Post := by
  intro l hfl _ _ p e ha hc hk s m args below hf hA hF happ hP
  obtain ⟨hcalls, hrest, hpre⟩ := hP
  obtain ⟨-, -, -, hnamed, -, -, -, hat⟩ := (Spec.applies_iff hf).mp happ
  obtain ⟨hg, hn⟩ := and_e (Cond.before_iff.mp (show (Jvm.Cond.and given_1 narrow_1).before args s = true from hpre))
  obtain ⟨g0, gs0⟩ := and_e hg
  obtain ⟨w0, w1, w2, w3, w4, w5, rfl⟩ : ∃ (w0 : Value) (w1 : Value) (w2 : Value) (w3 : Value) (w4 : Value) (w5 : Value), args = #[w0, w1, w2, w3, w4, w5] := by
    have hs : args.size = 6 := by simpa [Cond.value, given_1] using g0
    obtain ⟨L⟩ := args
    match L, hs with
    | [w0, w1, w2, w3, w4, w5], _ => exact ⟨w0, w1, w2, w3, w4, w5, rfl⟩
  have hw := fun d (hd : d ∈ tables_1) => atoms_spec (ws := Jvm.Cond.code x code maxLocals ret :: tables_1) hat d (List.mem_cons_of_mem _ hd)
  obtain ⟨b0, gs1⟩ := and_e gs0
  obtain ⟨i0, ei0⟩ := isL_v b0
  obtain rfl : w0 = (.long i0) := Option.some.inj ei0
  obtain ⟨b1, gs2⟩ := and_e gs1
  obtain ⟨i1, ei1⟩ := isL_v b1
  obtain rfl : w1 = (.long i1) := Option.some.inj ei1
  obtain ⟨b2, gs3⟩ := and_e gs2
  obtain ⟨i2, ei2⟩ := isL_v b2
  obtain rfl : w2 = (.long i2) := Option.some.inj ei2
  obtain ⟨b3, gs4⟩ := and_e gs3
  obtain ⟨i3, ei3⟩ := is_v b3
  obtain rfl : w3 = (.int i3) := Option.some.inj ei3
  obtain ⟨b4, gs5⟩ := and_e gs4
  obtain ⟨i4, ei4⟩ := isL_v b4
  obtain rfl : w4 = (.long i4) := Option.some.inj ei4
  have b5 := gs5
  obtain ⟨i5, ei5⟩ := is_v b5
  obtain rfl : w5 = (.int i5) := Option.some.inj ei5
  obtain ⟨n, o, h1, h2, h3, _, L, rfl, ⟨H', rfl, -, N⟩, hq⟩ := law_met s _ s.heap.size hw i0 i1 i2 i3 i4 i5 l s.heap ⟨rfl, ⟨Nat.le_refl _, fun _ _ q => q⟩, by simp, fun k o q => by simp at q⟩ p e ha hc hk s m _ below hf ((Spec.applies_iff_loose hf).mp happ).1 ⟨rfl, State.Warmed39.refl s, rfl⟩ trivial
  refine ⟨n, _, h1, h2, h3, hpost _ _ _ _ _ _ ⟨Cond.after_iff.mpr rfl, Cond.after_iff.mpr (eq_i res_at (Term.int_eval (1)) rfl), trivial⟩ ⟨hq.1, hq.2.1, hq.2.2.1, (hq.2.2.2.sift fun y hy => Or.inr (N y hy)).mono (by decide) (by decide)⟩⟩
theorem main_1_1 : Claimed_1_1 := comes_1 fun _ _ _ _ _ _ h hF => ⟨h.1, hF⟩
theorem main_1_2 : Claimed_1_2 := comes_1 fun _ _ _ _ _ _ h hF => ⟨h.2.1, hF⟩
end Jvm.Pilot.@@N@@
namespace Jvm.Pilot.@@N@@
open Jvm Jvm.ClassFile Sem Op Lib Jvm.Free Jvm.Stand Jvm.Pilot.@@N@@.Jvm.D
/-! MADE BY PROGRAM (witnessworld.py) out of the Statement's table words and the real class files: 16 classes; the members and pool entries that the words name. The judged class is class 1, her method 1. -/
namespace start1
open Jvm.ClassFile
def u (s : String) : CpInfo := .utf8 (stringToUtf16 s)
/-- a pool by its gaps: so many unusable entries, then the entry; so many at the end -/
def gap : Nat → List CpInfo → List CpInfo
  | 0, r => r
  | n + 1, r => .unusable :: gap n r
def poolList (es : List (Nat × CpInfo)) (last : Nat) : List CpInfo := es.foldr (fun e r => gap e.1 (e.2 :: r)) (gap last [])
def pool (es : List (Nat × CpInfo)) (last : Nat) : Array CpInfo := ⟨poolList es last⟩
def fileOf (pool : Array CpInfo) (this : Nat) (attrs : Array Attribute := #[]) (ms : Array MethodInfo := #[]) (fl : Nat := 33) (sup : Nat := 0) (ifs : Array Nat := #[]) (fds : Array FieldInfo := #[]) : ClassFile where
  minorVersion := 0
  majorVersion := 65
  constantPool := pool
  accessFlags := fl
  thisClass := this
  superClass := sup
  interfaces := ifs
  fields := fds
  methods := ms
  attributes := attrs
def plain (name : String) (sup : Option ClassId) : Class where
  name := name
  kind := .ordinary
  loader := none
  accessFlags := 33
  super := sup
  interfaces := #[]
  cf := none
  fields := #[]
  methods := #[]
  instanceTypes := #[]
  staticTypes := #[]
  resolved := #[]
  callSites := []
  init := .initialized
  statics := none
  mirror := none

def pool0 : Array CpInfo := pool [(5, u "<init>"), (0, u "()V"), (1, .class_ 10), (1, u "java/lang/Object")] 113

def k0m0 : Method := { name := "<init>", desc := "()V", sig := { parameters := [], returnType := none }, accessFlags := 1, code := none }
/-- java/lang/Object -/
def k0 : Class := { plain "java/lang/Object" none with
  accessFlags := 33
  interfaces := #[]
  cf := some (fileOf pool0 8 #[] #[{ accessFlags := 1, nameIndex := 5, descriptorIndex := 6, attributes := #[] }] 33 0 #[] #[])
  fields := #[]
  methods := #[k0m0]
  instanceTypes := #[]
  staticTypes := #[]
  resolved := Array.replicate 124 none
  statics := none }

def pool1 : Array CpInfo := pool [(2, .class_ 4), (1, u "java/lang/Object"), (0, u "<init>"), (0, u "()V"), (0, .integer 2147483647), (0, .methodref 9 10), (0, .class_ 11), (0, .nameAndType 12 13), (0, u "java/lang/Math"), (0, u "min"), (0, u "(JJ)J"), (0, .methodref 15 16), (0, .class_ 17), (0, .nameAndType 18 19), (0, u "com/example/nopar/nopar/plan/Shares"), (0, u "targets"), (0, u "(I[I[I[I)[I"), (0, .methodref 21 22), (0, .class_ 23), (0, .nameAndType 24 25), (0, u "com/example/nopar/nopar/plan/SharesTargetsPinLaw"), (0, u "within"), (0, u "([I[II)Z"), (0, .methodref 21 27), (0, .nameAndType 28 29), (0, u "pair"), (0, u "([I[I[I[III)Z"), (0, .methodref 21 31), (0, .nameAndType 32 33), (0, u "priority"), (0, u "(III)I"), (2, u "law"), (0, u "(JJJIJI)Z")] 5

def k1m0 : Method := { name := "<init>", desc := "()V", sig := { parameters := [], returnType := none }, accessFlags := 2, code := none }
def k1c1 : Code := { maxStack := 6, maxLocals := 21, code := code, exceptionTable := #[], attributes := #[] }
def k1m1 : Method := { name := "law", desc := "(JJJIJI)Z", sig := { parameters := [.long, .long, .long, .int, .long, .int], returnType := some .boolean }, accessFlags := 9, code := some k1c1 }
def k1c2 : Code := { maxStack := 3, maxLocals := 3, code := method_3_code, exceptionTable := #[], attributes := #[] }
def k1m2 : Method := { name := "within", desc := "([I[II)Z", sig := { parameters := [(.array .int), (.array .int), .int], returnType := some .boolean }, accessFlags := 10, code := some k1c2 }
def k1c3 : Code := { maxStack := 4, maxLocals := 3, code := method_4_code, exceptionTable := #[], attributes := #[] }
def k1m3 : Method := { name := "priority", desc := "(III)I", sig := { parameters := [.int, .int, .int], returnType := some .int }, accessFlags := 10, code := some k1c3 }
def k1c4 : Code := { maxStack := 6, maxLocals := 11, code := method_5_code, exceptionTable := #[], attributes := #[] }
def k1m4 : Method := { name := "pair", desc := "([I[I[I[III)Z", sig := { parameters := [(.array .int), (.array .int), (.array .int), (.array .int), .int, .int], returnType := some .boolean }, accessFlags := 10, code := some k1c4 }
/-- com/example/nopar/nopar/plan/SharesTargetsPinLaw -/
def k1 : Class := { plain "com/example/nopar/nopar/plan/SharesTargetsPinLaw" (some 0) with
  accessFlags := 49
  interfaces := #[]
  cf := some (fileOf pool1 21 #[] #[{ accessFlags := 2, nameIndex := 5, descriptorIndex := 6, attributes := #[] }, { accessFlags := 9, nameIndex := 36, descriptorIndex := 37, attributes := #[] }, { accessFlags := 10, nameIndex := 24, descriptorIndex := 25, attributes := #[] }, { accessFlags := 10, nameIndex := 32, descriptorIndex := 33, attributes := #[] }, { accessFlags := 10, nameIndex := 28, descriptorIndex := 29, attributes := #[] }] 49 2 #[] #[])
  fields := #[]
  methods := #[k1m0, k1m1, k1m2, k1m3, k1m4]
  instanceTypes := #[]
  staticTypes := #[]
  resolved := Array.replicate 43 none
  statics := none }

def pool2 : Array CpInfo := pool [(1, .class_ 2), (0, u "java/lang/Math"), (1, .class_ 6), (1, u "java/lang/Object"), (0, u "<init>"), (0, u "()V"), (89, .class_ 100), (1, u "java/lang/Math$RandomNumberGeneratorHolder"), (20, u "(JJ)J"), (50, u "negativeZeroFloatBits"), (0, u "J"), (2, u "negativeZeroDoubleBits"), (24, u "min"), (43, u "$assertionsDisabled"), (0, u "Z"), (88, u "(II)I"), (2, u "twoToTheDoubleScaleDown"), (0, u "D"), (4, u "twoToTheDoubleScaleUp"), (9, u "E"), (3, u "PI"), (2, u "TAU"), (2, u "DEGREES_TO_RADIANS"), (0, u "RADIANS_TO_DEGREES")] 94

def k2m0 : Method := { name := "<init>", desc := "()V", sig := { parameters := [], returnType := none }, accessFlags := 2, code := none }
def k2c1 : Code := { maxStack := 2, maxLocals := 2, code := jdk_29_method_69_code, exceptionTable := #[], attributes := #[] }
def k2m1 : Method := { name := "min", desc := "(II)I", sig := { parameters := [.int, .int], returnType := some .int }, accessFlags := 9, code := some k2c1 }
def k2c2 : Code := { maxStack := 4, maxLocals := 4, code := jdk_29_method_70_code, exceptionTable := #[], attributes := #[] }
def k2m2 : Method := { name := "min", desc := "(JJ)J", sig := { parameters := [.long, .long], returnType := some .long }, accessFlags := 9, code := some k2c2 }
/-- java/lang/Math -/
def k2 : Class := { plain "java/lang/Math" (some 0) with
  accessFlags := 49
  interfaces := #[]
  cf := some (fileOf pool2 1 #[.nestMembers #[98]] #[{ accessFlags := 2, nameIndex := 7, descriptorIndex := 8, attributes := #[] }, { accessFlags := 9, nameIndex := 201, descriptorIndex := 335, attributes := #[] }, { accessFlags := 9, nameIndex := 201, descriptorIndex := 121, attributes := #[] }] 49 4 #[] #[{ accessFlags := 25, nameIndex := 354, descriptorIndex := 339, attributes := #[] }, { accessFlags := 25, nameIndex := 358, descriptorIndex := 339, attributes := #[] }, { accessFlags := 25, nameIndex := 361, descriptorIndex := 339, attributes := #[] }, { accessFlags := 26, nameIndex := 364, descriptorIndex := 339, attributes := #[] }, { accessFlags := 26, nameIndex := 365, descriptorIndex := 339, attributes := #[] }, { accessFlags := 26, nameIndex := 172, descriptorIndex := 173, attributes := #[] }, { accessFlags := 26, nameIndex := 176, descriptorIndex := 173, attributes := #[] }, { accessFlags := 8, nameIndex := 344, descriptorIndex := 339, attributes := #[] }, { accessFlags := 8, nameIndex := 338, descriptorIndex := 339, attributes := #[] }, { accessFlags := 4120, nameIndex := 245, descriptorIndex := 246, attributes := #[] }])
  fields := #[{ name := "E", type := .double, accessFlags := 25, slot := 0, constantValue := 0 }, { name := "PI", type := .double, accessFlags := 25, slot := 1, constantValue := 0 }, { name := "TAU", type := .double, accessFlags := 25, slot := 2, constantValue := 0 }, { name := "DEGREES_TO_RADIANS", type := .double, accessFlags := 26, slot := 3, constantValue := 0 }, { name := "RADIANS_TO_DEGREES", type := .double, accessFlags := 26, slot := 4, constantValue := 0 }, { name := "negativeZeroFloatBits", type := .long, accessFlags := 26, slot := 5, constantValue := 0 }, { name := "negativeZeroDoubleBits", type := .long, accessFlags := 26, slot := 6, constantValue := 0 }, { name := "twoToTheDoubleScaleUp", type := .double, accessFlags := 8, slot := 7, constantValue := 0 }, { name := "twoToTheDoubleScaleDown", type := .double, accessFlags := 8, slot := 8, constantValue := 0 }, { name := "$assertionsDisabled", type := .boolean, accessFlags := 4120, slot := 9, constantValue := 0 }]
  methods := #[k2m0, k2m1, k2m2]
  instanceTypes := #[]
  staticTypes := #[.double, .double, .double, .double, .double, .long, .long, .double, .double, .boolean]
  resolved := Array.replicate 460 none
  statics := none }

def pool3 : Array CpInfo := pool [(4, .class_ 6), (1, u "java/lang/Object"), (0, u "<init>"), (0, u "()V"), (0, .string 10), (0, u "caps"), (0, .methodref 12 13), (0, .class_ 14), (0, .nameAndType 15 16), (0, u "java/util/Objects"), (0, u "requireNonNull"), (0, u "(Ljava/lang/Object;Ljava/lang/String;)Ljava/lang/Object;"), (0, .string 18), (0, u "held"), (0, .string 20), (0, u "returning"), (12, .methodref 34 35), (0, .class_ 36), (0, .nameAndType 37 38), (0, u "java/lang/Math"), (0, u "min"), (0, u "(JJ)J"), (0, .methodref 40 41), (0, .class_ 42), (0, .nameAndType 43 44), (0, u "com/example/nopar/nopar/plan/Shares"), (0, u "highestLevel"), (0, u "([II)I"), (0, .methodref 34 46), (0, .nameAndType 37 47), (0, u "(II)I"), (0, .methodref 40 49), (0, .nameAndType 50 51), (0, u "step"), (0, u "(III)I"), (0, .methodref 40 53), (0, .nameAndType 54 55), (0, u "filled"), (0, u "([II)J"), (0, u "OWNS_MORE"), (0, u "I"), (2, u "TAKES_BACK_MORE"), (1, u "ANY"), (3, u "targets"), (0, u "(I[I[I[I)[I")] 22

def k3m0 : Method := { name := "<init>", desc := "()V", sig := { parameters := [], returnType := none }, accessFlags := 2, code := none }
def k3c1 : Code := { maxStack := 4, maxLocals := 13, code := prog_31_method_2_code, exceptionTable := #[], attributes := #[] }
def k3m1 : Method := { name := "targets", desc := "(I[I[I[I)[I", sig := { parameters := [.int, (.array .int), (.array .int), (.array .int)], returnType := some (.array .int) }, accessFlags := 9, code := some k3c1 }
def k3c2 : Code := { maxStack := 4, maxLocals := 4, code := prog_31_method_3_code, exceptionTable := #[], attributes := #[] }
def k3m2 : Method := { name := "step", desc := "(III)I", sig := { parameters := [.int, .int, .int], returnType := some .int }, accessFlags := 10, code := some k3c2 }
def k3c3 : Code := { maxStack := 4, maxLocals := 5, code := prog_31_method_4_code, exceptionTable := #[], attributes := #[] }
def k3m3 : Method := { name := "highestLevel", desc := "([II)I", sig := { parameters := [(.array .int), .int], returnType := some .int }, accessFlags := 10, code := some k3c3 }
def k3c4 : Code := { maxStack := 4, maxLocals := 8, code := prog_31_method_5_code, exceptionTable := #[], attributes := #[] }
def k3m4 : Method := { name := "filled", desc := "([II)J", sig := { parameters := [(.array .int), .int], returnType := some .long }, accessFlags := 10, code := some k3c4 }
/-- com/example/nopar/nopar/plan/Shares -/
def k3 : Class := { plain "com/example/nopar/nopar/plan/Shares" (some 0) with
  accessFlags := 49
  interfaces := #[]
  cf := some (fileOf pool3 40 #[] #[{ accessFlags := 2, nameIndex := 7, descriptorIndex := 8, attributes := #[] }, { accessFlags := 9, nameIndex := 66, descriptorIndex := 67, attributes := #[] }, { accessFlags := 10, nameIndex := 50, descriptorIndex := 51, attributes := #[] }, { accessFlags := 10, nameIndex := 43, descriptorIndex := 44, attributes := #[] }, { accessFlags := 10, nameIndex := 54, descriptorIndex := 55, attributes := #[] }] 49 4 #[] #[{ accessFlags := 26, nameIndex := 56, descriptorIndex := 57, attributes := #[] }, { accessFlags := 26, nameIndex := 60, descriptorIndex := 57, attributes := #[] }, { accessFlags := 26, nameIndex := 62, descriptorIndex := 57, attributes := #[] }])
  fields := #[{ name := "OWNS_MORE", type := .int, accessFlags := 26, slot := 0, constantValue := 0 }, { name := "TAKES_BACK_MORE", type := .int, accessFlags := 26, slot := 1, constantValue := 0 }, { name := "ANY", type := .int, accessFlags := 26, slot := 2, constantValue := 0 }]
  methods := #[k3m0, k3m1, k3m2, k3m3, k3m4]
  instanceTypes := #[]
  staticTypes := #[.int, .int, .int]
  resolved := Array.replicate 90 none
  statics := none }

def pool4 : Array CpInfo := pool [(1, .class_ 2), (0, u "java/io/Serializable"), (0, .class_ 4), (0, u "java/lang/Object")] 2

/-- java/io/Serializable -/
def k4 : Class := { plain "java/io/Serializable" (some 0) with
  accessFlags := 1537
  interfaces := #[]
  cf := some (fileOf pool4 1 #[] #[] 1537 3 #[] #[])
  fields := #[]
  methods := #[]
  instanceTypes := #[]
  staticTypes := #[]
  resolved := Array.replicate 7 none
  statics := none }

def pool5 : Array CpInfo := pool [(1, .class_ 2), (0, u "java/lang/Comparable"), (0, .class_ 4), (0, u "java/lang/Object")] 7

/-- java/lang/Comparable -/
def k5 : Class := { plain "java/lang/Comparable" (some 0) with
  accessFlags := 1537
  interfaces := #[]
  cf := some (fileOf pool5 1 #[] #[] 1537 3 #[] #[])
  fields := #[]
  methods := #[]
  instanceTypes := #[]
  staticTypes := #[]
  resolved := Array.replicate 12 none
  statics := none }

def pool6 : Array CpInfo := pool [(2, .class_ 4), (1, u "java/lang/CharSequence"), (42, .class_ 48), (0, u "java/lang/CharSequence$1CodePointIterator"), (10, .class_ 60), (0, u "java/lang/CharSequence$1CharIterator"), (5, .class_ 67), (0, u "java/lang/Object")] 63

/-- java/lang/CharSequence -/
def k6 : Class := { plain "java/lang/CharSequence" (some 0) with
  accessFlags := 1537
  interfaces := #[]
  cf := some (fileOf pool6 2 #[.nestMembers #[47, 59]] #[] 1537 66 #[] #[])
  fields := #[]
  methods := #[]
  instanceTypes := #[]
  staticTypes := #[]
  resolved := Array.replicate 131 none
  statics := none }

def pool7 : Array CpInfo := pool [(1, .class_ 2), (0, u "java/lang/constant/Constable"), (0, .class_ 4), (0, u "java/lang/Object")] 6

/-- java/lang/constant/Constable -/
def k7 : Class := { plain "java/lang/constant/Constable" (some 0) with
  accessFlags := 1537
  interfaces := #[]
  cf := some (fileOf pool7 1 #[] #[] 1537 3 #[] #[])
  fields := #[]
  methods := #[]
  instanceTypes := #[]
  staticTypes := #[]
  resolved := Array.replicate 11 none
  statics := none }

def pool8 : Array CpInfo := pool [(1, .class_ 2), (0, u "java/lang/constant/ConstantDesc"), (0, .class_ 4), (0, u "java/lang/Object")] 32

/-- java/lang/constant/ConstantDesc -/
def k8 : Class := { plain "java/lang/constant/ConstantDesc" (some 0) with
  accessFlags := 1537
  interfaces := #[]
  cf := some (fileOf pool8 1 #[] #[] 1537 3 #[] #[])
  fields := #[]
  methods := #[]
  instanceTypes := #[]
  staticTypes := #[]
  resolved := Array.replicate 37 none
  statics := none }

def pool9 : Array CpInfo := pool [(2, .class_ 4), (1, u "java/lang/Object"), (0, u "<init>"), (0, u "()V"), (3, .class_ 12), (1, u "java/lang/String"), (0, u "value"), (0, u "[B"), (2, u "coder"), (0, u "B"), (2, u "hash"), (0, u "I"), (2, u "hashIsZero"), (0, u "Z"), (13, u "COMPACT_STRINGS"), (534, .class_ 576), (0, u "java/lang/CharSequence"), (22, u "CASE_INSENSITIVE_ORDER"), (0, u "Ljava/util/Comparator;"), (500, u "serialPersistentFields"), (0, u "[Ljava/io/ObjectStreamField;"), (0, .class_ 1104), (0, u "java/lang/String$CaseInsensitiveComparator"), (1, .class_ 1107), (0, u "java/io/Serializable"), (0, .class_ 1109), (0, u "java/lang/Comparable"), (0, .class_ 1111), (0, u "java/lang/constant/Constable"), (0, .class_ 1113), (0, u "java/lang/constant/ConstantDesc"), (2, u "serialVersionUID"), (0, u "J"), (3, u "REPL"), (0, u "C"), (2, u "LATIN1"), (1, u "UTF16")] 323

def k9m0 : Method := { name := "<init>", desc := "()V", sig := { parameters := [], returnType := none }, accessFlags := 1, code := none }
/-- java/lang/String -/
def k9 : Class := { plain "java/lang/String" (some 0) with
  accessFlags := 49
  interfaces := #[4, 5, 6, 7, 8]
  cf := some (fileOf pool9 10 #[.nestMembers #[1103]] #[{ accessFlags := 1, nameIndex := 5, descriptorIndex := 6, attributes := #[] }] 49 2 #[1106, 1108, 575, 1110, 1112] #[{ accessFlags := 18, nameIndex := 13, descriptorIndex := 14, attributes := #[] }, { accessFlags := 18, nameIndex := 17, descriptorIndex := 18, attributes := #[] }, { accessFlags := 2, nameIndex := 21, descriptorIndex := 22, attributes := #[] }, { accessFlags := 2, nameIndex := 25, descriptorIndex := 26, attributes := #[] }, { accessFlags := 26, nameIndex := 1116, descriptorIndex := 1117, attributes := #[] }, { accessFlags := 24, nameIndex := 40, descriptorIndex := 26, attributes := #[] }, { accessFlags := 26, nameIndex := 1101, descriptorIndex := 1102, attributes := #[] }, { accessFlags := 26, nameIndex := 1121, descriptorIndex := 1122, attributes := #[] }, { accessFlags := 25, nameIndex := 599, descriptorIndex := 600, attributes := #[] }, { accessFlags := 24, nameIndex := 1125, descriptorIndex := 18, attributes := #[] }, { accessFlags := 24, nameIndex := 1127, descriptorIndex := 18, attributes := #[] }])
  fields := #[{ name := "value", type := (.array .byte), accessFlags := 18, slot := 0, constantValue := 0 }, { name := "coder", type := .byte, accessFlags := 18, slot := 1, constantValue := 0 }, { name := "hash", type := .int, accessFlags := 2, slot := 2, constantValue := 0 }, { name := "hashIsZero", type := .boolean, accessFlags := 2, slot := 3, constantValue := 0 }, { name := "serialVersionUID", type := .long, accessFlags := 26, slot := 0, constantValue := 0 }, { name := "COMPACT_STRINGS", type := .boolean, accessFlags := 24, slot := 1, constantValue := 0 }, { name := "serialPersistentFields", type := (.array (.object "java/io/ObjectStreamField")), accessFlags := 26, slot := 2, constantValue := 0 }, { name := "REPL", type := .char, accessFlags := 26, slot := 3, constantValue := 0 }, { name := "CASE_INSENSITIVE_ORDER", type := (.object "java/util/Comparator"), accessFlags := 25, slot := 4, constantValue := 0 }, { name := "LATIN1", type := .byte, accessFlags := 24, slot := 5, constantValue := 0 }, { name := "UTF16", type := .byte, accessFlags := 24, slot := 6, constantValue := 0 }]
  methods := #[k9m0]
  instanceTypes := #[(.array .byte), .byte, .int, .boolean]
  staticTypes := #[.long, .boolean, (.array (.object "java/io/ObjectStreamField")), .char, (.object "java/util/Comparator"), .byte, .byte]
  resolved := Array.replicate 1451 none
  statics := none }

def pool10 : Array CpInfo := pool [(2, .class_ 4), (1, u "java/lang/Object"), (0, u "<init>"), (0, u "()V"), (35, .class_ 44), (1, u "java/util/Objects"), (0, u "requireNonNull"), (48, u "(Ljava/lang/Object;Ljava/lang/String;)Ljava/lang/Object;")] 89

def k10m0 : Method := { name := "<init>", desc := "()V", sig := { parameters := [], returnType := none }, accessFlags := 2, code := none }
def k10c1 : Code := { maxStack := 3, maxLocals := 2, code := jdk_31_method_11_code, exceptionTable := #[], attributes := #[] }
def k10m1 : Method := { name := "requireNonNull", desc := "(Ljava/lang/Object;Ljava/lang/String;)Ljava/lang/Object;", sig := { parameters := [(.object "java/lang/Object"), (.object "java/lang/String")], returnType := some (.object "java/lang/Object") }, accessFlags := 9, code := some k10c1 }
/-- java/util/Objects -/
def k10 : Class := { plain "java/util/Objects" (some 0) with
  accessFlags := 49
  interfaces := #[]
  cf := some (fileOf pool10 42 #[] #[{ accessFlags := 2, nameIndex := 5, descriptorIndex := 6, attributes := #[] }, { accessFlags := 9, nameIndex := 45, descriptorIndex := 94, attributes := #[] }] 49 2 #[] #[])
  fields := #[]
  methods := #[k10m0, k10m1]
  instanceTypes := #[]
  staticTypes := #[]
  resolved := Array.replicate 184 none
  statics := none }

def pool11 : Array CpInfo := pool [(1, u "java/lang/Cloneable"), (0, .class_ 1), (0, u "java/lang/Object"), (0, .class_ 3)] 3

/-- java/lang/Cloneable -/
def k11 : Class := { plain "java/lang/Cloneable" (some 0) with
  accessFlags := 1537
  interfaces := #[]
  cf := some (fileOf pool11 2 #[] #[] 1537 4 #[] #[])
  fields := #[]
  methods := #[]
  instanceTypes := #[]
  staticTypes := #[]
  resolved := Array.replicate 8 none
  statics := none }

/-- the primitive byte -/
def k12 : Class := { plain "byte" none with kind := .primitive 'B', accessFlags := 0x411 }
/-- [B -/
def k13 : Class := { plain "[B" (some 0) with kind := .array 12 .byte, interfaces := #[11, 4], accessFlags := 1041 }

/-- the primitive int -/
def k14 : Class := { plain "int" none with kind := .primitive 'I', accessFlags := 0x411 }
/-- [I -/
def k15 : Class := { plain "[I" (some 0) with kind := .array 14 .int, interfaces := #[11, 4], accessFlags := 1041 }

def heap : Heap := #[]
def classes : Array Class := #[k0, k1, k2, k3, k4, k5, k6, k7, k8, k9, k10, k11, k12, k13, k14, k15]
def interned : List (Array UInt16 × Addr) := []
def slotsUsed : Nat := 0
def theMethod : MethodId := ⟨1, 1⟩
def args0 : Array Value := #[.long 5, .long 3, .long 7, .int 9, .long 2, .int 1]
def aboutOver (below : List Frame) : State where
  vm := { classes := classes, interned := interned.toArray }
  heap := heap
  slotsUsed := slotsUsed
  threads := #[{ frames := .invoking theMethod args0 :: below }]
def below0 : List Frame := [.native { method := ⟨0, 0⟩, args := #[] }]
def about1 : State := aboutOver below0
def p0 : Program := .bare "" "" ""
def e0 : Env := launch0.env 0 0 0
theorem w_frames : about1.frames = Frame.invoking theMethod args0 :: below0 := rfl
set_option maxRecDepth 65536 in
theorem w_args : argsFit about1.vm theMethod args0 = true := by decide +kernel
set_option maxRecDepth 65536 in
theorem w_heap : heapFits about1 = true := by decide +kernel
set_option maxRecDepth 65536 in
theorem w_runnable : about1.curStatus? = some .runnable := by decide +kernel
set_option maxRecDepth 65536 in
theorem w_alone : about1.alone = true := by decide +kernel
set_option maxRecDepth 65536 in
theorem w_named : about1.methodNamed? x = some theMethod := by decide +kernel
set_option maxRecDepth 65536 in
theorem w_hears : about1.hears theMethod below0 = true := by decide +kernel
set_option maxRecDepth 65536 in
theorem w_ripe : about1.ripe theMethod args0 below0 = true := by decide +kernel
theorem w_running : about1.status = .running := rfl
set_option maxRecDepth 65536 in
theorem w_room : about1.hasRoom e0.platform room_1 = true :=
  launch0.hasRoom_least _ room_1 (by decide +kernel) (by decide +kernel) (by decide +kernel) (by decide +kernel) (by decide +kernel) (by decide +kernel)
theorem allAtoms_all (ts : List Jvm.Cond) (a : Array Jvm.Value) (st : Jvm.State) : (allAtoms ts).before a st = ts.all (fun c => c.before a st) := by
  induction ts with
  | nil => rfl
  | cons c t ih =>
    show (Jvm.Cond.and c (allAtoms t)).before a st = _
    rw [Jvm.Cond.before_and, ih, List.all_cons]
def words1 : List Jvm.Cond := Jvm.Cond.code x code maxLocals ret :: tables_1
/-- a 'code' word, met by the world's own term for the bytes: nothing is compared byte by byte -/
theorem code_word {y : MethodName} {bytes : ByteArray} {mx : Nat} {rt : Option FieldType} {a : Array Value} {s : State} {m : MethodId} {meth : Method} {c : Code} (h1 : s.methodNamed? y = some m) (h2 : s.vm.method? m = some meth) (h3 : meth.code = some c) (h4 : c.code = bytes)
    (h5 : (c.maxLocals == mx && c.exceptionTable.isEmpty && decide (c.maxStack ≤ mostOperands) && decide (meth.sig.returnType = rt) && !meth.locks && decide (parseMethodDescriptor y.desc = some meth.sig)) = true) : (Jvm.Cond.code y bytes mx rt).before a s = true := by
  simp only [Bool.and_eq_true, beq_iff_eq, Bool.not_eq_true', decide_eq_true_eq] at h5
  obtain ⟨⟨⟨⟨⟨g1, g2⟩, g3⟩, g4⟩, g5⟩, g6⟩ := h5
  simp [Cond.before, Cond.holds, Cond.value, h1, h2, h3, h4, g1, g2, g3, g4, g5, g6]
def isCode : Jvm.Cond → Bool
  | .code _ _ _ _ => true
  | _ => false
theorem all_split {L : List Jvm.Cond} {P : Jvm.Cond → Bool} (h1 : L.all (fun c => isCode c || P c) = true) (h2 : ∀ c ∈ L.filter isCode, P c = true) : L.all P = true := by
  refine List.all_eq_true.mpr fun c hc => ?_
  have h := List.all_eq_true.mp h1 c hc
  rcases Bool.eq_false_or_eq_true (isCode c) with hi | hi
  · exact h2 c (List.mem_filter.mpr ⟨hc, hi⟩)
  · simpa [hi] using h
set_option maxRecDepth 65536 in
theorem w_c0 : (Jvm.Cond.code x code maxLocals ret).before args0 about1 = true := code_word (m := ⟨1, 1⟩) (meth := k1m1) (c := k1c1) (by decide +kernel) rfl rfl rfl (by decide +kernel)
set_option maxRecDepth 65536 in
theorem w_c1 : (Jvm.Cond.code ({ cls := "java/lang/Math", name := "min", desc := "(JJ)J" } : Jvm.MethodName) jdk_29_method_70_code (4 : Nat) (Option.some Jvm.ClassFile.FieldType.long)).before args0 about1 = true := code_word (m := ⟨2, 2⟩) (meth := k2m2) (c := k2c2) (by decide +kernel) rfl rfl rfl (by decide +kernel)
set_option maxRecDepth 65536 in
theorem w_c2 : (Jvm.Cond.code ({ cls := "com/example/nopar/nopar/plan/Shares", name := "targets", desc := "(I[I[I[I)[I" } : Jvm.MethodName) prog_31_method_2_code (13 : Nat) (Option.some (Jvm.ClassFile.FieldType.array Jvm.ClassFile.FieldType.int))).before args0 about1 = true := code_word (m := ⟨3, 1⟩) (meth := k3m1) (c := k3c1) (by decide +kernel) rfl rfl rfl (by decide +kernel)
set_option maxRecDepth 65536 in
theorem w_c3 : (Jvm.Cond.code ({ cls := "java/util/Objects", name := "requireNonNull", desc := "(Ljava/lang/Object;Ljava/lang/String;)Ljava/lang/Object;" } : Jvm.MethodName) jdk_31_method_11_code (2 : Nat) (Option.some (Jvm.ClassFile.FieldType.object "java/lang/Object"))).before args0 about1 = true := code_word (m := ⟨10, 1⟩) (meth := k10m1) (c := k10c1) (by decide +kernel) rfl rfl rfl (by decide +kernel)
set_option maxRecDepth 65536 in
theorem w_c4 : (Jvm.Cond.code ({ cls := "com/example/nopar/nopar/plan/Shares", name := "highestLevel", desc := "([II)I" } : Jvm.MethodName) prog_31_method_4_code (5 : Nat) (Option.some Jvm.ClassFile.FieldType.int)).before args0 about1 = true := code_word (m := ⟨3, 3⟩) (meth := k3m3) (c := k3c3) (by decide +kernel) rfl rfl rfl (by decide +kernel)
set_option maxRecDepth 65536 in
theorem w_c5 : (Jvm.Cond.code ({ cls := "com/example/nopar/nopar/plan/Shares", name := "filled", desc := "([II)J" } : Jvm.MethodName) prog_31_method_5_code (8 : Nat) (Option.some Jvm.ClassFile.FieldType.long)).before args0 about1 = true := code_word (m := ⟨3, 4⟩) (meth := k3m4) (c := k3c4) (by decide +kernel) rfl rfl rfl (by decide +kernel)
set_option maxRecDepth 65536 in
theorem w_c6 : (Jvm.Cond.code ({ cls := "java/lang/Math", name := "min", desc := "(II)I" } : Jvm.MethodName) jdk_29_method_69_code (2 : Nat) (Option.some Jvm.ClassFile.FieldType.int)).before args0 about1 = true := code_word (m := ⟨2, 1⟩) (meth := k2m1) (c := k2c1) (by decide +kernel) rfl rfl rfl (by decide +kernel)
set_option maxRecDepth 65536 in
theorem w_c7 : (Jvm.Cond.code ({ cls := "com/example/nopar/nopar/plan/SharesTargetsPinLaw", name := "within", desc := "([I[II)Z" } : Jvm.MethodName) method_3_code (3 : Nat) (Option.some Jvm.ClassFile.FieldType.boolean)).before args0 about1 = true := code_word (m := ⟨1, 2⟩) (meth := k1m2) (c := k1c2) (by decide +kernel) rfl rfl rfl (by decide +kernel)
set_option maxRecDepth 65536 in
theorem w_c8 : (Jvm.Cond.code ({ cls := "com/example/nopar/nopar/plan/SharesTargetsPinLaw", name := "pair", desc := "([I[I[I[III)Z" } : Jvm.MethodName) method_5_code (11 : Nat) (Option.some Jvm.ClassFile.FieldType.boolean)).before args0 about1 = true := code_word (m := ⟨1, 4⟩) (meth := k1m4) (c := k1c4) (by decide +kernel) rfl rfl rfl (by decide +kernel)
set_option maxRecDepth 65536 in
theorem w_c9 : (Jvm.Cond.code ({ cls := "com/example/nopar/nopar/plan/Shares", name := "step", desc := "(III)I" } : Jvm.MethodName) prog_31_method_3_code (4 : Nat) (Option.some Jvm.ClassFile.FieldType.int)).before args0 about1 = true := code_word (m := ⟨3, 2⟩) (meth := k3m2) (c := k3c2) (by decide +kernel) rfl rfl rfl (by decide +kernel)
set_option maxRecDepth 65536 in
theorem w_c10 : (Jvm.Cond.code ({ cls := "com/example/nopar/nopar/plan/SharesTargetsPinLaw", name := "priority", desc := "(III)I" } : Jvm.MethodName) method_4_code (3 : Nat) (Option.some Jvm.ClassFile.FieldType.int)).before args0 about1 = true := code_word (m := ⟨1, 3⟩) (meth := k1m3) (c := k1c3) (by decide +kernel) rfl rfl rfl (by decide +kernel)
def codes1 : List Jvm.Cond := [Jvm.Cond.code x code maxLocals ret, Jvm.Cond.code ({ cls := "java/lang/Math", name := "min", desc := "(JJ)J" } : Jvm.MethodName) jdk_29_method_70_code (4 : Nat) (Option.some Jvm.ClassFile.FieldType.long), Jvm.Cond.code ({ cls := "com/example/nopar/nopar/plan/Shares", name := "targets", desc := "(I[I[I[I)[I" } : Jvm.MethodName) prog_31_method_2_code (13 : Nat) (Option.some (Jvm.ClassFile.FieldType.array Jvm.ClassFile.FieldType.int)), Jvm.Cond.code ({ cls := "java/util/Objects", name := "requireNonNull", desc := "(Ljava/lang/Object;Ljava/lang/String;)Ljava/lang/Object;" } : Jvm.MethodName) jdk_31_method_11_code (2 : Nat) (Option.some (Jvm.ClassFile.FieldType.object "java/lang/Object")), Jvm.Cond.code ({ cls := "com/example/nopar/nopar/plan/Shares", name := "highestLevel", desc := "([II)I" } : Jvm.MethodName) prog_31_method_4_code (5 : Nat) (Option.some Jvm.ClassFile.FieldType.int), Jvm.Cond.code ({ cls := "com/example/nopar/nopar/plan/Shares", name := "filled", desc := "([II)J" } : Jvm.MethodName) prog_31_method_5_code (8 : Nat) (Option.some Jvm.ClassFile.FieldType.long), Jvm.Cond.code ({ cls := "java/lang/Math", name := "min", desc := "(II)I" } : Jvm.MethodName) jdk_29_method_69_code (2 : Nat) (Option.some Jvm.ClassFile.FieldType.int), Jvm.Cond.code ({ cls := "com/example/nopar/nopar/plan/SharesTargetsPinLaw", name := "within", desc := "([I[II)Z" } : Jvm.MethodName) method_3_code (3 : Nat) (Option.some Jvm.ClassFile.FieldType.boolean), Jvm.Cond.code ({ cls := "com/example/nopar/nopar/plan/SharesTargetsPinLaw", name := "pair", desc := "([I[I[I[III)Z" } : Jvm.MethodName) method_5_code (11 : Nat) (Option.some Jvm.ClassFile.FieldType.boolean), Jvm.Cond.code ({ cls := "com/example/nopar/nopar/plan/Shares", name := "step", desc := "(III)I" } : Jvm.MethodName) prog_31_method_3_code (4 : Nat) (Option.some Jvm.ClassFile.FieldType.int), Jvm.Cond.code ({ cls := "com/example/nopar/nopar/plan/SharesTargetsPinLaw", name := "priority", desc := "(III)I" } : Jvm.MethodName) method_4_code (3 : Nat) (Option.some Jvm.ClassFile.FieldType.int)]
set_option maxRecDepth 65536 in
theorem codes_eq : words1.filter isCode = codes1 := rfl
theorem w_codes : ∀ c ∈ words1.filter isCode, c.before args0 about1 = true := by
  rw [codes_eq]
  intro c hc
  simp only [codes1, List.mem_cons, List.not_mem_nil, or_false] at hc
  rcases hc with rfl | rfl | rfl | rfl | rfl | rfl | rfl | rfl | rfl | rfl | rfl
  · exact w_c0
  · exact w_c1
  · exact w_c2
  · exact w_c3
  · exact w_c4
  · exact w_c5
  · exact w_c6
  · exact w_c7
  · exact w_c8
  · exact w_c9
  · exact w_c10
set_option maxRecDepth 65536 in
theorem w_t1 : (words1.take 24).all (fun c => isCode c || c.before args0 about1) = true := by decide +kernel
set_option maxRecDepth 65536 in
theorem w_t2 : (words1.drop 24).all (fun c => isCode c || c.before args0 about1) = true := by decide +kernel
theorem w_tables : (allAtoms (Jvm.Cond.code x code maxLocals ret :: tables_1)).before args0 about1 = true := by
  rw [allAtoms_all]
  show words1.all (fun c => c.before args0 about1) = true
  refine all_split ?_ w_codes
  rw [← List.take_append_drop 24 words1, List.all_append, w_t1, w_t2]
  rfl
set_option maxRecDepth 65536 in
theorem w_case : (Jvm.Cond.and given_1 narrow_1).before args0 about1 = true := by decide +kernel
theorem w_applies : (headSpec (Jvm.Cond.code x code maxLocals ret :: tables_1) room_1).applies x e0.platform about1 = true :=
  (Spec.applies_iff w_frames).mpr ⟨w_running, w_runnable, w_alone, w_named, w_hears, w_ripe, w_room, w_tables⟩
theorem atStart : AtStart classFile x code maxLocals ret World_1 tables_1 room_1 Calls_1 rest_1 Pre_1 launch0 p0 e0 about1 theMethod args0 below0 :=
  ⟨lists_1, trivial, launch0.admits_env _ _ _, launch0.least_env, fairChoices_fair.cas, fairChoices_fair.clock, w_frames, w_args, w_heap, w_applies, trivial, trivial, w_case⟩
end start1
theorem witness_1 : WitnessClaimed_1 := ⟨start1.p0, start1.e0, start1.about1, start1.theMethod, start1.args0, start1.below0, start1.atStart⟩
end Jvm.Pilot.@@N@@
