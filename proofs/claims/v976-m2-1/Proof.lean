import JvmDerived
import JvmDerived.Pilot.@@N@@Statement
import JvmDerived.Pilot.@@N@@Code
set_option linter.unusedVariables false
set_option linter.unusedSimpArgs false
namespace Jvm.GoKit
open Sem ClassFile Op Lib Jvm.Stand Jvm.Free Jvm.LawKit Jvm.RoadKit
/-! The walk as a backward predicate over a small abstract machine: refs count the cells made since the law began. -/
abbrev GCell := (String × List (String × String × Value)) ⊕ (FieldType × List Value)
abbrev ob (C : String) (fs : List (String × String × Value)) : GCell := Sum.inl (C, fs)
abbrev ar (t : FieldType) (vs : List Value) : GCell := Sum.inr (t, vs)
def upV (b : Nat) : Value → Value
  | .ref k => .ref (b + k)
  | .int x => .int x
  | .long x => .long x
  | .float x => .float x
  | .double x => .double x
  | .null => .null
  | .retAddr x => .retAddr x
def upS (b : Nat) : Slot → Slot
  | .val v => .val (upV b v)
  | .unset => .unset
  | .second => .second
theorem cat_up (b : Nat) (v : Value) : (upV b v).category = v.category := by cases v <;> rfl
theorem isRef_up (b : Nat) (v : Value) : (upV b v).isRef = v.isRef := by cases v <;> rfl
def CellOk (Z : State) (a0 : Array Value) (b : Nat) (h : Heap) (a : Addr) : GCell → Prop
  | Sum.inl (C, fs) => Exa Z h a C ∧ (∀ f ∈ fs, Fld Z h a C f.1 f.2.1 (upV b f.2.2) ∧ Laid Z a0 C C f.1 f.2.1 ∧ ∃ t, parseFieldDescriptor f.2.1 = some t) ∧ (fs.map (·.1)).Nodup
  | Sum.inr (ty, vs) => ∃ c : Cell, Arr Z h a c ty ∧ c.slots = (vs.map (upV b)).toArray ∧ Exa Z h a ("[" ++ ty.toString)
def Rel (Z : State) (a0 : Array Value) (b : Nat) (H : List GCell) (h : Heap) : Prop :=
  h.size = b + H.length ∧ ∀ (i : Nat) (mc : GCell), H[i]? = some mc → CellOk Z a0 b h (b + i) mc
section Rels
variable {Z : State} {a0 : Array Value} {b : Nat} {H : List GCell} {h h' : Heap} {a a' : Addr} {sl : Nat} {v : Value} {mc : GCell}
theorem CellOk.ext (E : Ext h h') (K : CellOk Z a0 b h a mc) : CellOk Z a0 b h' a mc := by
  rcases mc with ⟨C, fs⟩ | ⟨ty, vs⟩
  · obtain ⟨k1, k2, k3⟩ := K
    exact ⟨k1.ext E, fun f hf => ⟨(k2 f hf).1.ext E, (k2 f hf).2⟩, k3⟩
  · obtain ⟨c, A, e, e2⟩ := K
    exact ⟨c, A.ext E, e, e2.ext E⟩
theorem CellOk.other (W : Wr h h' a sl v) (ne : a' ≠ a) (K : CellOk Z a0 b h a' mc) : CellOk Z a0 b h' a' mc := by
  rcases mc with ⟨C, fs⟩ | ⟨ty, vs⟩
  · obtain ⟨k1, k2, k3⟩ := K
    exact ⟨k1.wr W, fun f hf => ⟨(k2 f hf).1.other W (Or.inl ne), (k2 f hf).2⟩, k3⟩
  · obtain ⟨c, A, e, e2⟩ := K
    exact ⟨c, A.other W ne, e, e2.wr W⟩
theorem Rel.nil (h : Heap) : Rel Z a0 h.size [] h := ⟨rfl, fun (i : Nat) mc q => by simp at q⟩
theorem Rel.push (RR : Rel Z a0 b H h) (E : Ext h h') (hs : h'.size = h.size + 1) (K : CellOk Z a0 b h' (b + H.length) mc) : Rel Z a0 b (H ++ [mc]) h' := by
  refine ⟨by rw [hs, RR.1]; simp; omega, fun (i : Nat) mc' q => ?_⟩
  rw [List.getElem?_append] at q
  split at q
  · exact (RR.2 i mc' q).ext E
  · rename_i hi
    have e : i = H.length := by
      by_cases e : i - H.length = 0
      · omega
      · rw [List.getElem?_eq_none (by simp; omega)] at q; cases q
    subst e
    simp at q
    exact q ▸ K
theorem Rel.wr (RR : Rel Z a0 b H h) {i : Nat} (W : Wr h h' (b + i) sl v) (K : CellOk Z a0 b h' (b + i) mc) : Rel Z a0 b (H.set i mc) h' := by
  refine ⟨by rw [W.size, RR.1]; simp, fun (j : Nat) mc' q => ?_⟩
  rw [List.getElem?_set] at q
  split at q
  · rename_i e
    subst e
    split at q
    · cases q; exact K
    · cases q
  · rename_i e
    exact (RR.2 j mc' q).other W (fun z => e (Nat.add_left_cancel z).symm)
theorem mem_setF {n d : String} {o : Value} : ∀ (fs : List (String × String × Value)) (j : Nat), (fs.map (·.1)).Nodup → fs[j]? = some (n, d, o) → ∀ f ∈ fs.set j (n, d, v), f = (n, d, v) ∨ (f ∈ fs ∧ f.1 ≠ n)
  | [], _, _, q, _, _ => by simp at q
  | g :: gs, 0, nd, q, f, hf => by
    simp only [List.getElem?_cons_zero, Option.some.injEq] at q
    subst q
    simp only [List.map_cons, List.nodup_cons] at nd
    simp only [List.set_cons_zero, List.mem_cons] at hf
    rcases hf with rfl | hf
    · exact Or.inl rfl
    · refine Or.inr ⟨List.mem_cons_of_mem _ hf, fun e => nd.1 ?_⟩
      exact List.mem_map.mpr ⟨f, hf, e⟩
  | g :: gs, j + 1, nd, q, f, hf => by
    simp only [List.getElem?_cons_succ] at q
    simp only [List.map_cons, List.nodup_cons] at nd
    simp only [List.set_cons_succ, List.mem_cons] at hf
    rcases hf with rfl | hf
    · refine Or.inr ⟨List.mem_cons_self .., fun e => nd.1 ?_⟩
      exact List.mem_map.mpr ⟨_, List.mem_of_getElem? q, e.symm⟩
    · rcases mem_setF gs j nd.2 q f hf with e | ⟨e1, e2⟩
      · exact Or.inl e
      · exact Or.inr ⟨List.mem_cons_of_mem _ e1, e2⟩
theorem map_setF {n d : String} {o : Value} : ∀ (fs : List (String × String × Value)) (j : Nat), fs[j]? = some (n, d, o) → (fs.set j (n, d, v)).map (·.1) = fs.map (·.1)
  | [], _, q => by simp at q
  | g :: gs, 0, q => by
    simp only [List.getElem?_cons_zero, Option.some.injEq] at q
    subst q; rfl
  | g :: gs, j + 1, q => by
    simp only [List.getElem?_cons_succ] at q
    simp only [List.set_cons_succ, List.map_cons, map_setF gs j q]
theorem CellOk.fset {C n d : String} {fs : List (String × String × Value)} {j : Nat} {o : Value} (K : CellOk Z a0 b h a (ob C fs)) (q : fs[j]? = some (n, d, o)) (W : Wr h h' a (Jvm.RoadKit.slotOf Z C n d) (upV b v)) : CellOk Z a0 b h' a (ob C (fs.set j (n, d, v))) := by
  obtain ⟨k1, k2, k3⟩ := K
  have m0 := List.mem_of_getElem? q
  obtain ⟨F, L, t, ht⟩ := k2 _ m0
  refine ⟨k1.wr W, fun f hf => ?_, by rw [map_setF fs j q]; exact k3⟩
  rcases mem_setF fs j k3 q f hf with rfl | ⟨e1, e2⟩
  · exact ⟨F.same W, L, t, ht⟩
  · obtain ⟨F', L', t', ht'⟩ := k2 _ e1
    exact ⟨F'.other W (Or.inr (slot_ne L' L e2 ht' ht)), L', t', ht'⟩
end Rels
theorem ne_oa {H : List GCell} {i j : Nat} {C : String} {fs : List (String × String × Value)} {t : FieldType} {vs : List Value} (h1 : H[i]? = some (ob C fs)) (h2 : H[j]? = some (ar t vs)) : i ≠ j := fun e => by subst e; rw [h1] at h2; cases h2
theorem get_ne {H : List GCell} {i j : Nat} {m m' : GCell} (h : H[j]? = some m) (ne : i ≠ j) : (H.set i m')[j]? = some m := by rw [List.getElem?_set_ne ne]; exact h
theorem get_eq {H : List GCell} {i : Nat} {m m' : GCell} (h : H[i]? = some m) : (H.set i m')[i]? = some m' := by
  have := (List.getElem?_eq_some_iff.mp h).1
  simp [this]
theorem get_app {H H2 : List GCell} {i : Nat} {m : GCell} (h : H[i]? = some m) : (H ++ H2)[i]? = some m := by
  have := (List.getElem?_eq_some_iff.mp h).1
  rw [List.getElem?_append_left this]; exact h
theorem get_last {H : List GCell} {m : GCell} : (H ++ [m])[H.length]? = some m := by simp
theorem set_same {α : Type} {l : List α} {k : Nat} {v : α} (h : l[k]? = some v) : l.set k v = l := by
  apply List.ext_getElem?
  intro j
  rw [List.getElem?_set]
  split
  · rename_i e; subst e
    obtain ⟨h1, h2⟩ := List.getElem?_eq_some_iff.mp h
    rw [if_pos h1, h]
  · rfl
def Dc (bytes : ByteArray) (pc : Nat) (i : Instr) (n nx : Nat) : Prop := decode bytes pc = .ok (i, n) ∧ pc + n = nx
theorem wd {W : List Jvm.Cond} {d : Jvm.Cond} (k : Nat) (h : W[k]? = some d) : d ∈ W := List.mem_of_getElem? h
def QQ (Z : State) (a0 : Array Value) (b : Nat) (Post : Option Value → List GCell → Prop) (v : Option Value) (h : Heap) (LL : List Loc) : Prop :=
  Fr b LL ∧ ∃ v' H', v = Option.map (upV b) v' ∧ Rel Z a0 b H' h ∧ Post v' H'
/-- a method's contract over the abstract machine -/
def Met (l : Launch) (Z : State) (a0 : Array Value) (b : Nat) (y : MethodName) (bytes : ByteArray) (maxL : Nat) (ret : Option FieldType) (rm : Room) (as : List Value) (H : List GCell) (Post : Option Value → List GCell → Prop) : Prop :=
  ∀ h, Rel Z a0 b H h → ∀ ws, MetFree l y (head1 (Jvm.Cond.code y bytes maxL ret :: ws) rm) (fun a U => a = (as.map (upV b)).toArray ∧ Z.Warmed39 U.vm ∧ U.heap = h) (fun _ _ _ _ _ => True)
    (fun _ U o U' => ∃ v LL, o = .returned v ∧ QQ Z a0 b Post v U'.heap LL ∧ FrameEnd U o U' LL rm.cells rm.slots)
/-- where a body is walked -/
def Cx (p : Program) (l : Launch) (e : Env) (R : Room) (s : State) (m : MethodId) (args : Array Value) (below : List Frame) (meth : Method) (c : Code) (Z : State) (a0 : Array Value) (W : List Jvm.Cond) (b : Nat) (y : MethodName) (bytes : ByteArray) (nL : Nat) (ret : Option FieldType) (Post : Option Value → List GCell → Prop) : Prop :=
  p.tables.exec = Jvm.exec ∧ Z.Warmed39 s.vm ∧ s.vm.findClass y.cls = some m.cls ∧ c.code = bytes ∧ c.maxLocals = nL ∧ meth.sig.returnType = ret ∧ meth.locks = false ∧ meth.name = y.name ∧ (∀ d ∈ W, d.before a0 Z = true)
section Walk
variable {p : Program} {l : Launch} {e : Env} {R : Room} {s : State} {m : MethodId} {args : Array Value} {below : List Frame} {meth : Method} {c : Code} {Z : State} {a0 : Array Value} {W : List Jvm.Cond} {b : Nat} {y : MethodName} {bytes : ByteArray} {nL : Nat} {ret : Option FieldType} {Post : Option Value → List GCell → Prop}
theorem Cx.exec (C : Cx p l e R s m args below meth c Z a0 W b y bytes nL ret Post) : p.tables.exec = Jvm.exec := C.1
theorem Cx.warm (C : Cx p l e R s m args below meth c Z a0 W b y bytes nL ret Post) : Z.Warmed39 s.vm := C.2.1
theorem Cx.own (C : Cx p l e R s m args below meth c Z a0 W b y bytes nL ret Post) : s.vm.findClass y.cls = some m.cls := C.2.2.1
theorem Cx.bys (C : Cx p l e R s m args below meth c Z a0 W b y bytes nL ret Post) : c.code = bytes := C.2.2.2.1
theorem Cx.ml (C : Cx p l e R s m args below meth c Z a0 W b y bytes nL ret Post) : c.maxLocals = nL := C.2.2.2.2.1
theorem Cx.rets (C : Cx p l e R s m args below meth c Z a0 W b y bytes nL ret Post) : meth.sig.returnType = ret := C.2.2.2.2.2.1
theorem Cx.nolock (C : Cx p l e R s m args below meth c Z a0 W b y bytes nL ret Post) : meth.locks = false := C.2.2.2.2.2.2.1
theorem Cx.named (C : Cx p l e R s m args below meth c Z a0 W b y bytes nL ret Post) : meth.name = y.name := C.2.2.2.2.2.2.2.1
theorem Cx.hw (C : Cx p l e R s m args below meth c Z a0 W b y bytes nL ret Post) : ∀ d ∈ W, d.before a0 Z = true := C.2.2.2.2.2.2.2.2
abbrev frm (b : Nat) (m : MethodId) (pc : Nat) (L : List Slot) (S : List Value) : JFrame := mkF m pc (L.map (upS b)).toArray (S.map (upV b))
def Ends (p : Program) (e : Env) (s : State) (R : Room) (b : Nat) (Z : State) (a0 : Array Value) (Post : Option Value → List GCell → Prop) (below : List Frame) (A : State) : Prop :=
  ∃ s₂ o, Steps p.tables e below A s₂ ∧ s₂.status = .running ∧ Ended s₂ below o ∧ ∃ v LL, o = .returned v ∧ QQ Z a0 b Post v s₂.heap LL ∧ FrameEnd s o s₂ LL R.cells R.slots
/-- from here the body returns, and Post holds of what it returns and of the heap -/
def Go (C : Cx p l e R s m args below meth c Z a0 W b y bytes nL ret Post) (pc : Nat) (L : List Slot) (S : List Value) (H : List GCell) (cells slots : Nat) : Prop :=
  ∀ T locs, Stand p l e R s m args below meth c T locs cells slots → Fr b locs → Rel Z a0 b H T.heap → Ends p e s R b Z a0 Post below (T.setTop (frm b m pc L S))
variable {C : Cx p l e R s m args below meth c Z a0 W b y bytes nL ret Post} {pc nx tg : Nat} {L L' : List Slot} {S S' : List Value} {H H' : List GCell} {cells slots : Nat}
theorem Ends.back {A B : State} (st : ∀ t, Steps p.tables e below B t → Steps p.tables e below A t) (h : Ends p e s R b Z a0 Post below B) : Ends p e s R b Z a0 Post below A := by
  obtain ⟨s₂, o, hs, hr⟩ := h
  exact ⟨s₂, o, st _ hs, hr⟩
theorem Go.more {cells' slots' : Nat} (h : Go C pc L S H cells' slots') (hc : cells ≤ cells') (hs : slots ≤ slots') : Go C pc L S H cells slots :=
  fun T locs X N RR => h T locs (X.more hc hs) N RR
theorem go_pure (st : ∀ (T : State) locs cells slots, Stand p l e R s m args below meth c T locs cells slots → ∀ t, Steps p.tables e below (T.setTop (frm b m nx L' S')) t → Steps p.tables e below (T.setTop (frm b m pc L S)) t) (h : Go C nx L' S' H cells slots) : Go C pc L S H cells slots :=
  fun T locs X N RR => (h T locs X N RR).back (st T locs _ _ X)
/-- a boolean reckoned by branches: the ways come together at pc' -/
theorem go_cut {pc' : Nat} {P : Int32 → Prop} (h1 : (∀ mb, P mb → Go C pc' L (.int mb :: S) H cells slots) → Go C pc L S H cells slots) (h2 : ∀ mb, P mb → Go C pc' L (.int mb :: S) H cells slots) : Go C pc L S H cells slots := h1 h2
theorem getL {k : Nat} {o : Slot} (h : L[k]? = some o) : (L.map (upS b)).toArray[k]? = some (upS b o) := by simp [h]
theorem go_iload {k : Nat} {x : Int32} (hd : Dc bytes pc (.iload k) 2 nx) (hl : L[k]? = some (.val (.int x))) (h : Go C nx L (.int x :: S) H cells slots) : Go C pc L S H cells slots :=
  go_pure (fun T _ _ _ X t k => by obtain ⟨hd, rfl⟩ := hd; exact XS.iload X.here C.exec rfl (hb C.bys hd) (getL hl) k) h
theorem go_iloadN {k : Fin 4} {x : Int32} (hd : Dc bytes pc (.iload_n k) 1 nx) (hl : L[k.val]? = some (.val (.int x))) (h : Go C nx L (.int x :: S) H cells slots) : Go C pc L S H cells slots :=
  go_pure (fun T _ _ _ X t k => by obtain ⟨hd, rfl⟩ := hd; exact XS.iloadN X.here C.exec rfl (hb C.bys hd) (getL hl) k) h
theorem go_lload {k : Nat} {x : Int64} (hd : Dc bytes pc (.lload k) 2 nx) (hl : L[k]? = some (.val (.long x))) (h : Go C nx L (.long x :: S) H cells slots) : Go C pc L S H cells slots :=
  go_pure (fun T _ _ _ X t k => by obtain ⟨hd, rfl⟩ := hd; exact XT.lload X.here C.exec rfl (hb C.bys hd) (getL hl) k) h
theorem go_lloadN {k : Fin 4} {x : Int64} (hd : Dc bytes pc (.lload_n k) 1 nx) (hl : L[k.val]? = some (.val (.long x))) (h : Go C nx L (.long x :: S) H cells slots) : Go C pc L S H cells slots :=
  go_pure (fun T _ _ _ X t k => by obtain ⟨hd, rfl⟩ := hd; exact XT.lloadN X.here C.exec rfl (hb C.bys hd) (getL hl) k) h
theorem go_aload {k : Nat} {x : Value} (hd : Dc bytes pc (.aload k) 2 nx) (hl : L[k]? = some (.val x)) (hr : x.isRef = true) (h : Go C nx L (x :: S) H cells slots) : Go C pc L S H cells slots :=
  go_pure (fun T _ _ _ X t k => by obtain ⟨hd, rfl⟩ := hd; exact XS.aload X.here C.exec rfl (hb C.bys hd) (getL hl) ((isRef_up b x).trans hr) k) h
theorem go_aloadN {k : Fin 4} {x : Value} (hd : Dc bytes pc (.aload_n k) 1 nx) (hl : L[k.val]? = some (.val x)) (hr : x.isRef = true) (h : Go C nx L (x :: S) H cells slots) : Go C pc L S H cells slots :=
  go_pure (fun T _ _ _ X t k => by obtain ⟨hd, rfl⟩ := hd; exact XS.aloadN X.here C.exec rfl (hb C.bys hd) (getL hl) ((isRef_up b x).trans hr) k) h
theorem go_iconst {i : Int} {x : Int32} (hd : Dc bytes pc (.iconst i) 1 nx) (hv : Int32.ofInt i = x) (h : Go C nx L (.int x :: S) H cells slots) : Go C pc L S H cells slots :=
  go_pure (fun T _ _ _ X t k => by obtain ⟨hd, rfl⟩ := hd; subst hv; exact XS.iconst X.here C.exec rfl (hb C.bys hd) k) h
theorem go_bipush {i : Int} {x : Int32} (hd : Dc bytes pc (.bipush i) 2 nx) (hv : (Int8.ofInt i).toInt32 = x) (h : Go C nx L (.int x :: S) H cells slots) : Go C pc L S H cells slots :=
  go_pure (fun T _ _ _ X t k => by obtain ⟨hd, rfl⟩ := hd; subst hv; exact XS.bipush X.here C.exec rfl (hb C.bys hd) k) h
theorem go_sipush {i : Int} {x : Int32} (hd : Dc bytes pc (.sipush i) 3 nx) (hv : (Int16.ofInt i).toInt32 = x) (h : Go C nx L (.int x :: S) H cells slots) : Go C pc L S H cells slots :=
  go_pure (fun T _ _ _ X t k => by obtain ⟨hd, rfl⟩ := hd; subst hv; exact XS.sipush X.here C.exec rfl (hb C.bys hd) k) h
theorem go_lconst {i : Fin 2} {x : Int64} (hd : Dc bytes pc (.lconst i) 1 nx) (hv : Int64.ofNat i = x) (h : Go C nx L (.long x :: S) H cells slots) : Go C pc L S H cells slots :=
  go_pure (fun T _ _ _ X t k => by obtain ⟨hd, rfl⟩ := hd; subst hv; exact XT.lconst X.here C.exec rfl (hb C.bys hd) k) h
theorem go_null (hd : Dc bytes pc .aconst_null 1 nx) (h : Go C nx L (.null :: S) H cells slots) : Go C pc L S H cells slots :=
  go_pure (fun T _ _ _ X t k => by obtain ⟨hd, rfl⟩ := hd; exact XS.aconstNull X.here C.exec rfl (hb C.bys hd) k) h
theorem go_ldc {i : Nat} {x : Int32} (hd : Dc bytes pc (.ldc i) 2 nx) (w : Jvm.Cond.constant y.cls i x ∈ W) (h : Go C nx L (.int x :: S) H cells slots) : Go C pc L S H cells slots :=
  go_pure (fun T _ _ _ X t k => by obtain ⟨hd, rfl⟩ := hd; exact X.ldcInt C.exec C.own (mvT C.warm (C.hw _ w)) (g := frm b m pc L S) rfl (hb C.bys hd) _ k) h
theorem go_ldc2 {i : Nat} {x : Int64} (hd : Dc bytes pc (.ldc2_w i) 3 nx) (w : Jvm.Cond.constantLong y.cls i x ∈ W) (h : Go C nx L (.long x :: S) H cells slots) : Go C pc L S H cells slots :=
  go_pure (fun T _ _ _ X t k => by obtain ⟨hd, rfl⟩ := hd; exact X.ldc2Long C.exec C.own (mvT C.warm (C.hw _ w)) (g := frm b m pc L S) rfl (hb C.bys hd) _ k) h
theorem go_iadd {x : Int32} {z : Int32} (hd : Dc bytes pc .iadd 1 nx) (h : Go C nx L (.int (x + z) :: S) H cells slots) : Go C pc L (.int z :: .int x :: S) H cells slots :=
  go_pure (fun T _ _ _ X t k => by obtain ⟨hd, rfl⟩ := hd; exact XS.iadd X.here C.exec rfl (hb C.bys hd) rfl k) h
theorem go_ladd {x : Int64} {z : Int64} (hd : Dc bytes pc .ladd 1 nx) (h : Go C nx L (.long (x + z) :: S) H cells slots) : Go C pc L (.long z :: .long x :: S) H cells slots :=
  go_pure (fun T _ _ _ X t k => by obtain ⟨hd, rfl⟩ := hd; exact XT.ladd X.here C.exec rfl (hb C.bys hd) rfl k) h
theorem go_isub {x : Int32} {z : Int32} (hd : Dc bytes pc .isub 1 nx) (h : Go C nx L (.int (x - z) :: S) H cells slots) : Go C pc L (.int z :: .int x :: S) H cells slots :=
  go_pure (fun T _ _ _ X t k => by obtain ⟨hd, rfl⟩ := hd; exact XS.isub X.here C.exec rfl (hb C.bys hd) rfl k) h
theorem go_lsub {x : Int64} {z : Int64} (hd : Dc bytes pc .lsub 1 nx) (h : Go C nx L (.long (x - z) :: S) H cells slots) : Go C pc L (.long z :: .long x :: S) H cells slots :=
  go_pure (fun T _ _ _ X t k => by obtain ⟨hd, rfl⟩ := hd; exact XT.lsub X.here C.exec rfl (hb C.bys hd) rfl k) h
theorem go_imul {x : Int32} {z : Int32} (hd : Dc bytes pc .imul 1 nx) (h : Go C nx L (.int (x * z) :: S) H cells slots) : Go C pc L (.int z :: .int x :: S) H cells slots :=
  go_pure (fun T _ _ _ X t k => by obtain ⟨hd, rfl⟩ := hd; exact XS.imul X.here C.exec rfl (hb C.bys hd) rfl k) h
theorem go_lmul {x : Int64} {z : Int64} (hd : Dc bytes pc .lmul 1 nx) (h : Go C nx L (.long (x * z) :: S) H cells slots) : Go C pc L (.long z :: .long x :: S) H cells slots :=
  go_pure (fun T _ _ _ X t k => by obtain ⟨hd, rfl⟩ := hd; exact XT.lmul X.here C.exec rfl (hb C.bys hd) rfl k) h
theorem go_iand {x : Int32} {z : Int32} (hd : Dc bytes pc .iand 1 nx) (h : Go C nx L (.int (x &&& z) :: S) H cells slots) : Go C pc L (.int z :: .int x :: S) H cells slots :=
  go_pure (fun T _ _ _ X t k => by obtain ⟨hd, rfl⟩ := hd; exact XS.iand X.here C.exec rfl (hb C.bys hd) rfl k) h
theorem go_land {x : Int64} {z : Int64} (hd : Dc bytes pc .land 1 nx) (h : Go C nx L (.long (x &&& z) :: S) H cells slots) : Go C pc L (.long z :: .long x :: S) H cells slots :=
  go_pure (fun T _ _ _ X t k => by obtain ⟨hd, rfl⟩ := hd; exact XT.land X.here C.exec rfl (hb C.bys hd) rfl k) h
theorem go_ior {x : Int32} {z : Int32} (hd : Dc bytes pc .ior 1 nx) (h : Go C nx L (.int (x ||| z) :: S) H cells slots) : Go C pc L (.int z :: .int x :: S) H cells slots :=
  go_pure (fun T _ _ _ X t k => by obtain ⟨hd, rfl⟩ := hd; exact XT.ior X.here C.exec rfl (hb C.bys hd) rfl k) h
theorem go_lor {x : Int64} {z : Int64} (hd : Dc bytes pc .lor 1 nx) (h : Go C nx L (.long (x ||| z) :: S) H cells slots) : Go C pc L (.long z :: .long x :: S) H cells slots :=
  go_pure (fun T _ _ _ X t k => by obtain ⟨hd, rfl⟩ := hd; exact XT.lor X.here C.exec rfl (hb C.bys hd) rfl k) h
theorem go_ixor {x : Int32} {z : Int32} (hd : Dc bytes pc .ixor 1 nx) (h : Go C nx L (.int (x ^^^ z) :: S) H cells slots) : Go C pc L (.int z :: .int x :: S) H cells slots :=
  go_pure (fun T _ _ _ X t k => by obtain ⟨hd, rfl⟩ := hd; exact XT.ixor X.here C.exec rfl (hb C.bys hd) rfl k) h
theorem go_lxor {x : Int64} {z : Int64} (hd : Dc bytes pc .lxor 1 nx) (h : Go C nx L (.long (x ^^^ z) :: S) H cells slots) : Go C pc L (.long z :: .long x :: S) H cells slots :=
  go_pure (fun T _ _ _ X t k => by obtain ⟨hd, rfl⟩ := hd; exact XT.lxor X.here C.exec rfl (hb C.bys hd) rfl k) h
theorem go_ishl {x : Int32} {z : Int32} (hd : Dc bytes pc .ishl 1 nx) (h : Go C nx L (.int (x <<< (z &&& 31)) :: S) H cells slots) : Go C pc L (.int z :: .int x :: S) H cells slots :=
  go_pure (fun T _ _ _ X t k => by obtain ⟨hd, rfl⟩ := hd; exact XT.ishl X.here C.exec rfl (hb C.bys hd) rfl k) h
theorem go_ishr {x : Int32} {z : Int32} (hd : Dc bytes pc .ishr 1 nx) (h : Go C nx L (.int (x >>> (z &&& 31)) :: S) H cells slots) : Go C pc L (.int z :: .int x :: S) H cells slots :=
  go_pure (fun T _ _ _ X t k => by obtain ⟨hd, rfl⟩ := hd; exact XT.ishr X.here C.exec rfl (hb C.bys hd) rfl k) h
theorem go_iushr {x : Int32} {z : Int32} (hd : Dc bytes pc .iushr 1 nx) (h : Go C nx L (.int (XT.ushr x z) :: S) H cells slots) : Go C pc L (.int z :: .int x :: S) H cells slots :=
  go_pure (fun T _ _ _ X t k => by obtain ⟨hd, rfl⟩ := hd; exact XT.iushr X.here C.exec rfl (hb C.bys hd) rfl k) h
theorem go_lshl {x : Int64} {z : Int32} (hd : Dc bytes pc .lshl 1 nx) (h : Go C nx L (.long (x <<< (z.toInt64 &&& 63)) :: S) H cells slots) : Go C pc L (.int z :: .long x :: S) H cells slots :=
  go_pure (fun T _ _ _ X t k => by obtain ⟨hd, rfl⟩ := hd; exact XT.lshl X.here C.exec rfl (hb C.bys hd) rfl k) h
theorem go_lshr {x : Int64} {z : Int32} (hd : Dc bytes pc .lshr 1 nx) (h : Go C nx L (.long (x >>> (z.toInt64 &&& 63)) :: S) H cells slots) : Go C pc L (.int z :: .long x :: S) H cells slots :=
  go_pure (fun T _ _ _ X t k => by obtain ⟨hd, rfl⟩ := hd; exact XT.lshr X.here C.exec rfl (hb C.bys hd) rfl k) h
theorem go_lushr {x : Int64} {z : Int32} (hd : Dc bytes pc .lushr 1 nx) (h : Go C nx L (.long (XT.ushrL x z) :: S) H cells slots) : Go C pc L (.int z :: .long x :: S) H cells slots :=
  go_pure (fun T _ _ _ X t k => by obtain ⟨hd, rfl⟩ := hd; exact XT.lushr X.here C.exec rfl (hb C.bys hd) rfl k) h
theorem go_ineg {x : Int32} (hd : Dc bytes pc .ineg 1 nx) (h : Go C nx L (.int (-x) :: S) H cells slots) : Go C pc L (.int x :: S) H cells slots :=
  go_pure (fun T _ _ _ X t k => by obtain ⟨hd, rfl⟩ := hd; exact XS.ineg X.here C.exec rfl (hb C.bys hd) rfl k) h
theorem go_lneg {x : Int64} (hd : Dc bytes pc .lneg 1 nx) (h : Go C nx L (.long (-x) :: S) H cells slots) : Go C pc L (.long x :: S) H cells slots :=
  go_pure (fun T _ _ _ X t k => by obtain ⟨hd, rfl⟩ := hd; exact XT.lneg X.here C.exec rfl (hb C.bys hd) rfl k) h
theorem go_i2l {x : Int32} (hd : Dc bytes pc .i2l 1 nx) (h : Go C nx L (.long (x.toInt64) :: S) H cells slots) : Go C pc L (.int x :: S) H cells slots :=
  go_pure (fun T _ _ _ X t k => by obtain ⟨hd, rfl⟩ := hd; exact XT.i2l X.here C.exec rfl (hb C.bys hd) rfl k) h
theorem go_l2i {x : Int64} (hd : Dc bytes pc .l2i 1 nx) (h : Go C nx L (.int (x.toInt32) :: S) H cells slots) : Go C pc L (.long x :: S) H cells slots :=
  go_pure (fun T _ _ _ X t k => by obtain ⟨hd, rfl⟩ := hd; exact XT.l2i X.here C.exec rfl (hb C.bys hd) rfl k) h
theorem go_i2b {x : Int32} (hd : Dc bytes pc .i2b 1 nx) (h : Go C nx L (.int (x.toInt8.toInt32) :: S) H cells slots) : Go C pc L (.int x :: S) H cells slots :=
  go_pure (fun T _ _ _ X t k => by obtain ⟨hd, rfl⟩ := hd; exact XT.i2b X.here C.exec rfl (hb C.bys hd) rfl k) h
theorem go_i2c {x : Int32} (hd : Dc bytes pc .i2c 1 nx) (h : Go C nx L (.int (x.toUInt32.toUInt16.toUInt32.toInt32) :: S) H cells slots) : Go C pc L (.int x :: S) H cells slots :=
  go_pure (fun T _ _ _ X t k => by obtain ⟨hd, rfl⟩ := hd; exact XT.i2c X.here C.exec rfl (hb C.bys hd) rfl k) h
theorem go_i2s {x : Int32} (hd : Dc bytes pc .i2s 1 nx) (h : Go C nx L (.int (x.toInt16.toInt32) :: S) H cells slots) : Go C pc L (.int x :: S) H cells slots :=
  go_pure (fun T _ _ _ X t k => by obtain ⟨hd, rfl⟩ := hd; exact XT.i2s X.here C.exec rfl (hb C.bys hd) rfl k) h
theorem go_idiv {x z : Int32} (hd : Dc bytes pc .idiv 1 nx) (hz : z ≠ 0) (h : Go C nx L (.int (x / z) :: S) H cells slots) : Go C pc L (.int z :: .int x :: S) H cells slots :=
  go_pure (fun T _ _ _ X t k => by obtain ⟨hd, rfl⟩ := hd; exact XS.idiv X.here C.exec rfl (hb C.bys hd) rfl hz k) h
theorem go_irem {x z : Int32} (hd : Dc bytes pc .irem 1 nx) (hz : z ≠ 0) (h : Go C nx L (.int (x % z) :: S) H cells slots) : Go C pc L (.int z :: .int x :: S) H cells slots :=
  go_pure (fun T _ _ _ X t k => by obtain ⟨hd, rfl⟩ := hd; exact iremM X C.exec rfl (hb C.bys hd) rfl hz k) h
theorem go_dup {v : Value} (hd : Dc bytes pc .dup 1 nx) (hc : v.category = 1) (h : Go C nx L (v :: v :: S) H cells slots) : Go C pc L (v :: S) H cells slots :=
  go_pure (fun T _ _ _ X t k => by obtain ⟨hd, rfl⟩ := hd; exact XS.dup X.here C.exec rfl (hb C.bys hd) rfl ((cat_up b v).trans hc) k) h
theorem go_dupX1 {v w : Value} (hd : Dc bytes pc .dup_x1 1 nx) (hc : v.category = 1) (hc' : w.category = 1) (h : Go C nx L (v :: w :: v :: S) H cells slots) : Go C pc L (v :: w :: S) H cells slots :=
  go_pure (fun T _ _ _ X t k => by obtain ⟨hd, rfl⟩ := hd; exact XT.dupX1 X.here C.exec rfl (hb C.bys hd) rfl ((cat_up b v).trans hc) ((cat_up b w).trans hc') k) h
theorem go_dup2 {v w : Value} (hd : Dc bytes pc .dup2 1 nx) (hc : v.category = 1) (hc' : w.category = 1) (h : Go C nx L (v :: w :: v :: w :: S) H cells slots) : Go C pc L (v :: w :: S) H cells slots :=
  go_pure (fun T _ _ _ X t k => by obtain ⟨hd, rfl⟩ := hd; exact XT.dup2 X.here C.exec rfl (hb C.bys hd) rfl ((cat_up b v).trans hc) ((cat_up b w).trans hc') k) h
theorem go_dup2L {x : Int64} (hd : Dc bytes pc .dup2 1 nx) (h : Go C nx L (.long x :: .long x :: S) H cells slots) : Go C pc L (.long x :: S) H cells slots :=
  go_pure (fun T _ _ _ X t k => by obtain ⟨hd, rfl⟩ := hd; exact XT.dup2L X.here C.exec rfl (hb C.bys hd) rfl k) h
theorem go_pop {v : Value} (hd : Dc bytes pc .pop 1 nx) (hc : v.category = 1) (h : Go C nx L S H cells slots) : Go C pc L (v :: S) H cells slots :=
  go_pure (fun T _ _ _ X t k => by obtain ⟨hd, rfl⟩ := hd; exact XT.pop X.here C.exec rfl (hb C.bys hd) rfl ((cat_up b v).trans hc) k) h
theorem go_goto {o : Int} (hd : Dc bytes pc (.goto o) 3 nx) (ht : (pc : Int) + o = (tg : Nat)) (h : Go C tg L S H cells slots) : Go C pc L S H cells slots :=
  go_pure (fun T _ _ _ X t k => XS.goto X.here C.exec rfl (pc0 := pc) (pc' := tg) rfl (hb C.bys hd.1) (by omega) (by omega) k) h
theorem go_icmp {cd : ClassFile.Cond} {o : Int} {x z : Int32} (hd : Dc bytes pc (.if_icmp cd o) 3 nx) (ht : (pc : Int) + o = (tg : Nat)) (h1 : if_icmp.holds cd x z = true → Go C tg L S H cells slots) (h2 : if_icmp.holds cd x z = false → Go C nx L S H cells slots) : Go C pc L (.int z :: .int x :: S) H cells slots := by
  cases q : if_icmp.holds cd x z
  · exact go_pure (fun T _ _ _ X t k => by obtain ⟨hd, rfl⟩ := hd; exact XS.icmpNo X.here C.exec rfl (hb C.bys hd) rfl q k) (h2 q)
  · exact go_pure (fun T _ _ _ X t k => XS.icmpYes X.here C.exec rfl (pc0 := pc) (pc' := tg) rfl (hb C.bys hd.1) rfl q (by omega) (by omega) k) (h1 q)
theorem go_if {cd : ClassFile.Cond} {o : Int} {x : Int32} (hd : Dc bytes pc (.ifCond cd o) 3 nx) (ht : (pc : Int) + o = (tg : Nat)) (h1 : if_icmp.holds cd x 0 = true → Go C tg L S H cells slots) (h2 : if_icmp.holds cd x 0 = false → Go C nx L S H cells slots) : Go C pc L (.int x :: S) H cells slots := by
  cases q : if_icmp.holds cd x 0
  · exact go_pure (fun T _ _ _ X t k => by obtain ⟨hd, rfl⟩ := hd; exact XS.ifNo X.here C.exec rfl (hb C.bys hd) rfl ((if0 _ _).trans q) k) (h2 q)
  · exact go_pure (fun T _ _ _ X t k => XS.ifYes X.here C.exec rfl (pc0 := pc) (pc' := tg) rfl (hb C.bys hd.1) rfl ((if0 _ _).trans q) (by omega) (by omega) k) (h1 q)
theorem h_eq {x z : Int32} {B : Bool} (q : if_icmp.holds .eq x z = B) : B = true ↔ x = z := by subst q; simp [if_icmp.holds]
theorem h_ne {x z : Int32} {B : Bool} (q : if_icmp.holds .ne x z = B) : B = true ↔ ¬ x = z := by subst q; simp [if_icmp.holds]
theorem h_lt {x z : Int32} {B : Bool} (q : if_icmp.holds .lt x z = B) : B = true ↔ x.toInt < z.toInt := by subst q; simp [if_icmp.holds, Int32.lt_iff_toInt_lt]
theorem h_ge {x z : Int32} {B : Bool} (q : if_icmp.holds .ge x z = B) : B = true ↔ z.toInt ≤ x.toInt := by subst q; simp [if_icmp.holds, Int32.le_iff_toInt_le]
theorem h_gt {x z : Int32} {B : Bool} (q : if_icmp.holds .gt x z = B) : B = true ↔ z.toInt < x.toInt := by subst q; simp [if_icmp.holds, Int32.lt_iff_toInt_lt]
theorem h_le {x z : Int32} {B : Bool} (q : if_icmp.holds .le x z = B) : B = true ↔ x.toInt ≤ z.toInt := by subst q; simp [if_icmp.holds, Int32.le_iff_toInt_le]
theorem go_iceq {o : Int} {x z : Int32} (hd : Dc bytes pc (.if_icmp .eq o) 3 nx) (ht : (pc : Int) + o = (tg : Nat)) (h1 : x = z → Go C tg L S H cells slots) (h2 : ¬ x = z → Go C nx L S H cells slots) : Go C pc L (.int z :: .int x :: S) H cells slots :=
  go_icmp hd ht (fun q => h1 ((h_eq q).mp rfl)) (fun q => h2 (fun r => Bool.noConfusion ((h_eq q).mpr r)))
theorem go_iceqY {o : Int} {x z : Int32} (hd : Dc bytes pc (.if_icmp .eq o) 3 nx) (ht : (pc : Int) + o = (tg : Nat)) (hc : x = z) (h : Go C tg L S H cells slots) : Go C pc L (.int z :: .int x :: S) H cells slots :=
  go_iceq hd ht (fun _ => h) (fun q => absurd hc (by first | exact q | exact not_not_intro q | omega))
theorem go_iceqN {o : Int} {x z : Int32} (hd : Dc bytes pc (.if_icmp .eq o) 3 nx) (ht : (pc : Int) + o = (tg : Nat)) (hc : ¬ x = z) (h : Go C nx L S H cells slots) : Go C pc L (.int z :: .int x :: S) H cells slots :=
  go_iceq hd ht (fun q => absurd hc (by first | exact q | exact not_not_intro q | omega)) (fun _ => h)
theorem go_ifeq {o : Int} {x : Int32} (hd : Dc bytes pc (.ifCond .eq o) 3 nx) (ht : (pc : Int) + o = (tg : Nat)) (h1 : x = 0 → Go C tg L S H cells slots) (h2 : ¬ x = 0 → Go C nx L S H cells slots) : Go C pc L (.int x :: S) H cells slots :=
  go_if hd ht (fun q => h1 ((h_eq q).mp rfl)) (fun q => h2 (fun r => Bool.noConfusion ((h_eq q).mpr r)))
theorem go_ifeqY {o : Int} {x : Int32} (hd : Dc bytes pc (.ifCond .eq o) 3 nx) (ht : (pc : Int) + o = (tg : Nat)) (hc : x = 0) (h : Go C tg L S H cells slots) : Go C pc L (.int x :: S) H cells slots :=
  go_ifeq hd ht (fun _ => h) (fun q => absurd hc (by first | exact q | exact not_not_intro q | omega))
theorem go_ifeqN {o : Int} {x : Int32} (hd : Dc bytes pc (.ifCond .eq o) 3 nx) (ht : (pc : Int) + o = (tg : Nat)) (hc : ¬ x = 0) (h : Go C nx L S H cells slots) : Go C pc L (.int x :: S) H cells slots :=
  go_ifeq hd ht (fun q => absurd hc (by first | exact q | exact not_not_intro q | omega)) (fun _ => h)
theorem go_icne {o : Int} {x z : Int32} (hd : Dc bytes pc (.if_icmp .ne o) 3 nx) (ht : (pc : Int) + o = (tg : Nat)) (h1 : ¬ x = z → Go C tg L S H cells slots) (h2 : x = z → Go C nx L S H cells slots) : Go C pc L (.int z :: .int x :: S) H cells slots :=
  go_icmp hd ht (fun q => h1 ((h_ne q).mp rfl)) (fun q => h2 (Decidable.not_not.mp fun r => Bool.noConfusion ((h_ne q).mpr r)))
theorem go_icneY {o : Int} {x z : Int32} (hd : Dc bytes pc (.if_icmp .ne o) 3 nx) (ht : (pc : Int) + o = (tg : Nat)) (hc : ¬ x = z) (h : Go C tg L S H cells slots) : Go C pc L (.int z :: .int x :: S) H cells slots :=
  go_icne hd ht (fun _ => h) (fun q => absurd hc (by first | exact q | exact not_not_intro q | omega))
theorem go_icneN {o : Int} {x z : Int32} (hd : Dc bytes pc (.if_icmp .ne o) 3 nx) (ht : (pc : Int) + o = (tg : Nat)) (hc : x = z) (h : Go C nx L S H cells slots) : Go C pc L (.int z :: .int x :: S) H cells slots :=
  go_icne hd ht (fun q => absurd hc (by first | exact q | exact not_not_intro q | omega)) (fun _ => h)
theorem go_ifne {o : Int} {x : Int32} (hd : Dc bytes pc (.ifCond .ne o) 3 nx) (ht : (pc : Int) + o = (tg : Nat)) (h1 : ¬ x = 0 → Go C tg L S H cells slots) (h2 : x = 0 → Go C nx L S H cells slots) : Go C pc L (.int x :: S) H cells slots :=
  go_if hd ht (fun q => h1 ((h_ne q).mp rfl)) (fun q => h2 (Decidable.not_not.mp fun r => Bool.noConfusion ((h_ne q).mpr r)))
theorem go_ifneY {o : Int} {x : Int32} (hd : Dc bytes pc (.ifCond .ne o) 3 nx) (ht : (pc : Int) + o = (tg : Nat)) (hc : ¬ x = 0) (h : Go C tg L S H cells slots) : Go C pc L (.int x :: S) H cells slots :=
  go_ifne hd ht (fun _ => h) (fun q => absurd hc (by first | exact q | exact not_not_intro q | omega))
theorem go_ifneN {o : Int} {x : Int32} (hd : Dc bytes pc (.ifCond .ne o) 3 nx) (ht : (pc : Int) + o = (tg : Nat)) (hc : x = 0) (h : Go C nx L S H cells slots) : Go C pc L (.int x :: S) H cells slots :=
  go_ifne hd ht (fun q => absurd hc (by first | exact q | exact not_not_intro q | omega)) (fun _ => h)
theorem go_iclt {o : Int} {x z : Int32} (hd : Dc bytes pc (.if_icmp .lt o) 3 nx) (ht : (pc : Int) + o = (tg : Nat)) (h1 : x.toInt < z.toInt → Go C tg L S H cells slots) (h2 : z.toInt ≤ x.toInt → Go C nx L S H cells slots) : Go C pc L (.int z :: .int x :: S) H cells slots :=
  go_icmp hd ht (fun q => h1 ((h_lt q).mp rfl)) (fun q => h2 ((by have := mt (h_lt q).mpr (by simp); omega)))
theorem go_icltY {o : Int} {x z : Int32} (hd : Dc bytes pc (.if_icmp .lt o) 3 nx) (ht : (pc : Int) + o = (tg : Nat)) (hc : x.toInt < z.toInt) (h : Go C tg L S H cells slots) : Go C pc L (.int z :: .int x :: S) H cells slots :=
  go_iclt hd ht (fun _ => h) (fun q => absurd hc (by first | exact q | exact not_not_intro q | omega))
theorem go_icltN {o : Int} {x z : Int32} (hd : Dc bytes pc (.if_icmp .lt o) 3 nx) (ht : (pc : Int) + o = (tg : Nat)) (hc : z.toInt ≤ x.toInt) (h : Go C nx L S H cells slots) : Go C pc L (.int z :: .int x :: S) H cells slots :=
  go_iclt hd ht (fun q => absurd hc (by first | exact q | exact not_not_intro q | omega)) (fun _ => h)
theorem go_iflt {o : Int} {x : Int32} (hd : Dc bytes pc (.ifCond .lt o) 3 nx) (ht : (pc : Int) + o = (tg : Nat)) (h1 : x.toInt < 0 → Go C tg L S H cells slots) (h2 : 0 ≤ x.toInt → Go C nx L S H cells slots) : Go C pc L (.int x :: S) H cells slots :=
  go_if hd ht (fun q => h1 ((by have := (h_lt q).mp rfl; simpa using this))) (fun q => h2 ((by have := mt (h_lt q).mpr (by simp); simpa using this)))
theorem go_ifltY {o : Int} {x : Int32} (hd : Dc bytes pc (.ifCond .lt o) 3 nx) (ht : (pc : Int) + o = (tg : Nat)) (hc : x.toInt < 0) (h : Go C tg L S H cells slots) : Go C pc L (.int x :: S) H cells slots :=
  go_iflt hd ht (fun _ => h) (fun q => absurd hc (by first | exact q | exact not_not_intro q | omega))
theorem go_ifltN {o : Int} {x : Int32} (hd : Dc bytes pc (.ifCond .lt o) 3 nx) (ht : (pc : Int) + o = (tg : Nat)) (hc : 0 ≤ x.toInt) (h : Go C nx L S H cells slots) : Go C pc L (.int x :: S) H cells slots :=
  go_iflt hd ht (fun q => absurd hc (by first | exact q | exact not_not_intro q | omega)) (fun _ => h)
theorem go_icge {o : Int} {x z : Int32} (hd : Dc bytes pc (.if_icmp .ge o) 3 nx) (ht : (pc : Int) + o = (tg : Nat)) (h1 : z.toInt ≤ x.toInt → Go C tg L S H cells slots) (h2 : x.toInt < z.toInt → Go C nx L S H cells slots) : Go C pc L (.int z :: .int x :: S) H cells slots :=
  go_icmp hd ht (fun q => h1 ((h_ge q).mp rfl)) (fun q => h2 ((by have := mt (h_ge q).mpr (by simp); omega)))
theorem go_icgeY {o : Int} {x z : Int32} (hd : Dc bytes pc (.if_icmp .ge o) 3 nx) (ht : (pc : Int) + o = (tg : Nat)) (hc : z.toInt ≤ x.toInt) (h : Go C tg L S H cells slots) : Go C pc L (.int z :: .int x :: S) H cells slots :=
  go_icge hd ht (fun _ => h) (fun q => absurd hc (by first | exact q | exact not_not_intro q | omega))
theorem go_icgeN {o : Int} {x z : Int32} (hd : Dc bytes pc (.if_icmp .ge o) 3 nx) (ht : (pc : Int) + o = (tg : Nat)) (hc : x.toInt < z.toInt) (h : Go C nx L S H cells slots) : Go C pc L (.int z :: .int x :: S) H cells slots :=
  go_icge hd ht (fun q => absurd hc (by first | exact q | exact not_not_intro q | omega)) (fun _ => h)
theorem go_ifge {o : Int} {x : Int32} (hd : Dc bytes pc (.ifCond .ge o) 3 nx) (ht : (pc : Int) + o = (tg : Nat)) (h1 : 0 ≤ x.toInt → Go C tg L S H cells slots) (h2 : x.toInt < 0 → Go C nx L S H cells slots) : Go C pc L (.int x :: S) H cells slots :=
  go_if hd ht (fun q => h1 ((by have := (h_ge q).mp rfl; simpa using this))) (fun q => h2 ((by have := mt (h_ge q).mpr (by simp); simpa using this)))
theorem go_ifgeY {o : Int} {x : Int32} (hd : Dc bytes pc (.ifCond .ge o) 3 nx) (ht : (pc : Int) + o = (tg : Nat)) (hc : 0 ≤ x.toInt) (h : Go C tg L S H cells slots) : Go C pc L (.int x :: S) H cells slots :=
  go_ifge hd ht (fun _ => h) (fun q => absurd hc (by first | exact q | exact not_not_intro q | omega))
theorem go_ifgeN {o : Int} {x : Int32} (hd : Dc bytes pc (.ifCond .ge o) 3 nx) (ht : (pc : Int) + o = (tg : Nat)) (hc : x.toInt < 0) (h : Go C nx L S H cells slots) : Go C pc L (.int x :: S) H cells slots :=
  go_ifge hd ht (fun q => absurd hc (by first | exact q | exact not_not_intro q | omega)) (fun _ => h)
theorem go_icgt {o : Int} {x z : Int32} (hd : Dc bytes pc (.if_icmp .gt o) 3 nx) (ht : (pc : Int) + o = (tg : Nat)) (h1 : z.toInt < x.toInt → Go C tg L S H cells slots) (h2 : x.toInt ≤ z.toInt → Go C nx L S H cells slots) : Go C pc L (.int z :: .int x :: S) H cells slots :=
  go_icmp hd ht (fun q => h1 ((h_gt q).mp rfl)) (fun q => h2 ((by have := mt (h_gt q).mpr (by simp); omega)))
theorem go_icgtY {o : Int} {x z : Int32} (hd : Dc bytes pc (.if_icmp .gt o) 3 nx) (ht : (pc : Int) + o = (tg : Nat)) (hc : z.toInt < x.toInt) (h : Go C tg L S H cells slots) : Go C pc L (.int z :: .int x :: S) H cells slots :=
  go_icgt hd ht (fun _ => h) (fun q => absurd hc (by first | exact q | exact not_not_intro q | omega))
theorem go_icgtN {o : Int} {x z : Int32} (hd : Dc bytes pc (.if_icmp .gt o) 3 nx) (ht : (pc : Int) + o = (tg : Nat)) (hc : x.toInt ≤ z.toInt) (h : Go C nx L S H cells slots) : Go C pc L (.int z :: .int x :: S) H cells slots :=
  go_icgt hd ht (fun q => absurd hc (by first | exact q | exact not_not_intro q | omega)) (fun _ => h)
theorem go_ifgt {o : Int} {x : Int32} (hd : Dc bytes pc (.ifCond .gt o) 3 nx) (ht : (pc : Int) + o = (tg : Nat)) (h1 : 0 < x.toInt → Go C tg L S H cells slots) (h2 : x.toInt ≤ 0 → Go C nx L S H cells slots) : Go C pc L (.int x :: S) H cells slots :=
  go_if hd ht (fun q => h1 ((by have := (h_gt q).mp rfl; simpa using this))) (fun q => h2 ((by have := mt (h_gt q).mpr (by simp); simpa using this)))
theorem go_ifgtY {o : Int} {x : Int32} (hd : Dc bytes pc (.ifCond .gt o) 3 nx) (ht : (pc : Int) + o = (tg : Nat)) (hc : 0 < x.toInt) (h : Go C tg L S H cells slots) : Go C pc L (.int x :: S) H cells slots :=
  go_ifgt hd ht (fun _ => h) (fun q => absurd hc (by first | exact q | exact not_not_intro q | omega))
theorem go_ifgtN {o : Int} {x : Int32} (hd : Dc bytes pc (.ifCond .gt o) 3 nx) (ht : (pc : Int) + o = (tg : Nat)) (hc : x.toInt ≤ 0) (h : Go C nx L S H cells slots) : Go C pc L (.int x :: S) H cells slots :=
  go_ifgt hd ht (fun q => absurd hc (by first | exact q | exact not_not_intro q | omega)) (fun _ => h)
theorem go_icle {o : Int} {x z : Int32} (hd : Dc bytes pc (.if_icmp .le o) 3 nx) (ht : (pc : Int) + o = (tg : Nat)) (h1 : x.toInt ≤ z.toInt → Go C tg L S H cells slots) (h2 : z.toInt < x.toInt → Go C nx L S H cells slots) : Go C pc L (.int z :: .int x :: S) H cells slots :=
  go_icmp hd ht (fun q => h1 ((h_le q).mp rfl)) (fun q => h2 ((by have := mt (h_le q).mpr (by simp); omega)))
theorem go_icleY {o : Int} {x z : Int32} (hd : Dc bytes pc (.if_icmp .le o) 3 nx) (ht : (pc : Int) + o = (tg : Nat)) (hc : x.toInt ≤ z.toInt) (h : Go C tg L S H cells slots) : Go C pc L (.int z :: .int x :: S) H cells slots :=
  go_icle hd ht (fun _ => h) (fun q => absurd hc (by first | exact q | exact not_not_intro q | omega))
theorem go_icleN {o : Int} {x z : Int32} (hd : Dc bytes pc (.if_icmp .le o) 3 nx) (ht : (pc : Int) + o = (tg : Nat)) (hc : z.toInt < x.toInt) (h : Go C nx L S H cells slots) : Go C pc L (.int z :: .int x :: S) H cells slots :=
  go_icle hd ht (fun q => absurd hc (by first | exact q | exact not_not_intro q | omega)) (fun _ => h)
theorem go_ifle {o : Int} {x : Int32} (hd : Dc bytes pc (.ifCond .le o) 3 nx) (ht : (pc : Int) + o = (tg : Nat)) (h1 : x.toInt ≤ 0 → Go C tg L S H cells slots) (h2 : 0 < x.toInt → Go C nx L S H cells slots) : Go C pc L (.int x :: S) H cells slots :=
  go_if hd ht (fun q => h1 ((by have := (h_le q).mp rfl; simpa using this))) (fun q => h2 ((by have := mt (h_le q).mpr (by simp); simpa using this)))
theorem go_ifleY {o : Int} {x : Int32} (hd : Dc bytes pc (.ifCond .le o) 3 nx) (ht : (pc : Int) + o = (tg : Nat)) (hc : x.toInt ≤ 0) (h : Go C tg L S H cells slots) : Go C pc L (.int x :: S) H cells slots :=
  go_ifle hd ht (fun _ => h) (fun q => absurd hc (by first | exact q | exact not_not_intro q | omega))
theorem go_ifleN {o : Int} {x : Int32} (hd : Dc bytes pc (.ifCond .le o) 3 nx) (ht : (pc : Int) + o = (tg : Nat)) (hc : 0 < x.toInt) (h : Go C nx L S H cells slots) : Go C pc L (.int x :: S) H cells slots :=
  go_ifle hd ht (fun q => absurd hc (by first | exact q | exact not_not_intro q | omega)) (fun _ => h)
theorem lcm_eq (x z : Int64) : XT.cmpL x z = 0 ↔ x = z := by
  unfold XT.cmpL
  by_cases h1 : z < x
  · rw [if_pos h1]; constructor
    · intro h; cases h
    · rintro rfl; exact (Int64.lt_irrefl h1).elim
  · rw [if_neg h1]; by_cases h2 : x = z
    · rw [if_pos h2]; simp [h2]
    · rw [if_neg h2]; constructor
      · intro h; cases h
      · intro h; exact absurd h h2
theorem lcm_lt (x z : Int64) : (XT.cmpL x z).toInt < 0 ↔ x.toInt < z.toInt := by
  unfold XT.cmpL
  by_cases h1 : z < x
  · rw [if_pos h1]; rw [Int64.lt_iff_toInt_lt] at h1; constructor
    · intro h; exact absurd h (by decide)
    · intro h; omega
  · rw [if_neg h1]; rw [Int64.lt_iff_toInt_lt] at h1; by_cases h2 : x = z
    · rw [if_pos h2]; subst h2; constructor
      · intro h; exact absurd h (by decide)
      · intro h; omega
    · rw [if_neg h2]; have : x.toInt ≠ z.toInt := fun q => h2 (Int64.toInt_inj.mp q)
      constructor
      · intro h; omega
      · intro h; decide
theorem lcm_gt (x z : Int64) : 0 < (XT.cmpL x z).toInt ↔ z.toInt < x.toInt := by
  unfold XT.cmpL
  by_cases h1 : z < x
  · rw [if_pos h1]; rw [Int64.lt_iff_toInt_lt] at h1; constructor
    · intro h; omega
    · intro h; decide
  · rw [if_neg h1]; rw [Int64.lt_iff_toInt_lt] at h1; by_cases h2 : x = z
    · rw [if_pos h2]; subst h2; constructor
      · intro h; exact absurd h (by decide)
      · intro h; omega
    · rw [if_neg h2]; constructor
      · intro h; exact absurd h (by decide)
      · intro h; omega
theorem go_lcmp {x z : Int64} (hd : Dc bytes pc .lcmp 1 nx) (h : Go C nx L (.int (XT.cmpL x z) :: S) H cells slots) : Go C pc L (.long z :: .long x :: S) H cells slots :=
  go_pure (fun T _ _ _ X t k => by obtain ⟨hd, rfl⟩ := hd; exact XT.lcmp X.here C.exec rfl (hb C.bys hd) rfl k) h
theorem go_lceq {o : Int} {x z : Int64} {p1 : Nat} (hd1 : Dc bytes pc .lcmp 1 p1) (hd : Dc bytes p1 (.ifCond .eq o) 3 nx) (ht : (p1 : Int) + o = (tg : Nat)) (h1 : x = z → Go C tg L S H cells slots) (h2 : ¬ x = z → Go C nx L S H cells slots) : Go C pc L (.long z :: .long x :: S) H cells slots :=
  go_lcmp hd1 (go_ifeq hd ht (fun q => h1 ((lcm_eq x z).mp q)) (fun q => h2 (fun r => q ((lcm_eq x z).mpr r))))
theorem go_lcne {o : Int} {x z : Int64} {p1 : Nat} (hd1 : Dc bytes pc .lcmp 1 p1) (hd : Dc bytes p1 (.ifCond .ne o) 3 nx) (ht : (p1 : Int) + o = (tg : Nat)) (h1 : ¬ x = z → Go C tg L S H cells slots) (h2 : x = z → Go C nx L S H cells slots) : Go C pc L (.long z :: .long x :: S) H cells slots :=
  go_lcmp hd1 (go_ifne hd ht (fun q => h1 (fun r => q ((lcm_eq x z).mpr r))) (fun q => h2 ((lcm_eq x z).mp q)))
theorem go_lclt {o : Int} {x z : Int64} {p1 : Nat} (hd1 : Dc bytes pc .lcmp 1 p1) (hd : Dc bytes p1 (.ifCond .lt o) 3 nx) (ht : (p1 : Int) + o = (tg : Nat)) (h1 : x.toInt < z.toInt → Go C tg L S H cells slots) (h2 : z.toInt ≤ x.toInt → Go C nx L S H cells slots) : Go C pc L (.long z :: .long x :: S) H cells slots :=
  go_lcmp hd1 (go_iflt hd ht (fun q => h1 (by have := lcm_lt x z; omega)) (fun q => h2 (by have := lcm_lt x z; omega)))
theorem go_lcge {o : Int} {x z : Int64} {p1 : Nat} (hd1 : Dc bytes pc .lcmp 1 p1) (hd : Dc bytes p1 (.ifCond .ge o) 3 nx) (ht : (p1 : Int) + o = (tg : Nat)) (h1 : z.toInt ≤ x.toInt → Go C tg L S H cells slots) (h2 : x.toInt < z.toInt → Go C nx L S H cells slots) : Go C pc L (.long z :: .long x :: S) H cells slots :=
  go_lcmp hd1 (go_ifge hd ht (fun q => h1 (by have := lcm_lt x z; omega)) (fun q => h2 (by have := lcm_lt x z; omega)))
theorem go_lcgt {o : Int} {x z : Int64} {p1 : Nat} (hd1 : Dc bytes pc .lcmp 1 p1) (hd : Dc bytes p1 (.ifCond .gt o) 3 nx) (ht : (p1 : Int) + o = (tg : Nat)) (h1 : z.toInt < x.toInt → Go C tg L S H cells slots) (h2 : x.toInt ≤ z.toInt → Go C nx L S H cells slots) : Go C pc L (.long z :: .long x :: S) H cells slots :=
  go_lcmp hd1 (go_ifgt hd ht (fun q => h1 (by have := lcm_gt x z; omega)) (fun q => h2 (by have := lcm_gt x z; omega)))
theorem go_lcle {o : Int} {x z : Int64} {p1 : Nat} (hd1 : Dc bytes pc .lcmp 1 p1) (hd : Dc bytes p1 (.ifCond .le o) 3 nx) (ht : (p1 : Int) + o = (tg : Nat)) (h1 : x.toInt ≤ z.toInt → Go C tg L S H cells slots) (h2 : z.toInt < x.toInt → Go C nx L S H cells slots) : Go C pc L (.long z :: .long x :: S) H cells slots :=
  go_lcmp hd1 (go_ifle hd ht (fun q => h1 (by have := lcm_gt x z; omega)) (fun q => h2 (by have := lcm_gt x z; omega)))
theorem go_acmp {cd : ACond} {o : Int} {v w : Value} {same : Bool} (hd : Dc bytes pc (.if_acmp cd o) 3 nx) (hv : v.isRef = true) (hw : w.isRef = true) (hs : decide (v = w) = same) (ht : (pc : Int) + o = (tg : Nat)) (h : Go C (if acV cd same = true then tg else nx) L S H cells slots) : Go C pc L (w :: v :: S) H cells slots :=
  go_pure (fun T _ _ _ X t k => by
    obtain ⟨hd, rfl⟩ := hd
    refine Jvm.RoadKit.acmp (g := frm b m pc L (w :: v :: S)) X C.exec rfl ((isRef_up b v).trans hv) ((isRef_up b w).trans hw) (pc0 := pc) (same := same) rfl (hb C.bys hd) rfl ?_ (by omega) (pc' := if acV cd same = true then tg else pc + 3) ?_ k
    · rw [← hs]
      have : upV b v = upV b w ↔ v = w := by
        constructor
        · intro q; cases v <;> cases w <;> simp_all [upV, Value.isRef]
        · intro q; rw [q]
      simp [this]
    · congr 1; omega) h
theorem go_ifnull_null {o : Int} (hd : Dc bytes pc (.ifnull o) 3 nx) (ht : (pc : Int) + o = (tg : Nat)) (h : Go C tg L S H cells slots) : Go C pc L (.null :: S) H cells slots :=
  go_pure (fun T _ _ _ X t k => XS.ifnullYes X.here C.exec rfl (pc0 := pc) (pc' := tg) rfl (hb C.bys hd.1) rfl (by omega) (by omega) k) h
theorem go_ifnull_ref {o : Int} {a : Nat} (hd : Dc bytes pc (.ifnull o) 3 nx) (h : Go C nx L S H cells slots) : Go C pc L (.ref a :: S) H cells slots :=
  go_pure (fun T _ _ _ X t k => by obtain ⟨hd, rfl⟩ := hd; exact XS.ifnullNo X.here C.exec rfl (hb C.bys hd) rfl k) h
theorem go_ifnonnull_ref {o : Int} {a : Nat} (hd : Dc bytes pc (.ifnonnull o) 3 nx) (ht : (pc : Int) + o = (tg : Nat)) (h : Go C tg L S H cells slots) : Go C pc L (.ref a :: S) H cells slots :=
  go_pure (fun T _ _ _ X t k => XT.ifnonnullYes X.here C.exec rfl (pc0 := pc) (pc' := tg) rfl (hb C.bys hd.1) rfl (by omega) (by omega) k) h
def oneS : Slot → Bool
  | .unset => true
  | .val v => v.category == 1
  | .second => false
def notL : Slot → Bool
  | .unset => true
  | .val v => v.category == 1
  | .second => true
theorem oneS_up {o : Slot} (h : oneS o = true) : upS b o = .unset ∨ ∃ w, upS b o = .val w ∧ w.category = 1 := by
  cases o with
  | unset => exact Or.inl rfl
  | second => cases h
  | val v => exact Or.inr ⟨_, rfl, (cat_up b v).trans (by simpa [oneS] using h)⟩
theorem set_up (k : Nat) (v : Value) : (L.map (upS b)).toArray.setIfInBounds k (.val (upV b v)) = ((L.set k (.val v)).map (upS b)).toArray := by
  simp [List.map_set, upS]
theorem sto1 {k : Nat} {o : Slot} {v : Value} (hk : L[k]? = some o) (ho : oneS o = true) (hv : v.category = 1) : storeLocals (L.map (upS b)).toArray k (upV b v) = some ((L.set k (.val v)).map (upS b)).toArray := by
  rw [XS.store1 (getL hk) (oneS_up ho) ((cat_up b v).trans hv), set_up]
theorem sto2 {k : Nat} {o o' : Slot} {x : Int64} (hk : L[k]? = some o) (hk' : L[k + 1]? = some o') (ho : oneS o = true ∨ ∃ z, o = .val (.long z)) (ho' : notL o' = true) : storeLocals (L.map (upS b)).toArray k (.long x) = some (((L.set k (.val (.long x))).set (k + 1) .second).map (upS b)).toArray := by
  obtain ⟨A, hA⟩ : ∃ A, A = (L.map (upS b)).toArray := ⟨_, rfl⟩
  have e0 := getL (b := b) hk
  have e1 := getL (b := b) hk'
  have fin : ((L.map (upS b)).toArray.setIfInBounds k (.val (.long x))).setIfInBounds (k + 1) .second = (((L.set k (.val (.long x))).set (k + 1) .second).map (upS b)).toArray := by
    simp [List.map_set, upS, upV]
  rw [← fin]
  rw [← hA] at e0 e1 ⊢
  clear hA fin
  have i0 : k < A.size := (Array.getElem?_eq_some_iff.mp e0).1
  have i1 : k + 1 < A.size := (Array.getElem?_eq_some_iff.mp e1).1
  have s1 : ∀ B : Array Slot, B.size = A.size → setAt B (k + 1) .second = some (B.setIfInBounds (k + 1) .second) := fun B hB => by simp [setAt, hB, i1]
  have self : ∀ (B : Array Slot) (u : Slot), B.size = A.size → B[k + 1]? = some u → (∀ w, u = .val w → w.category ≠ 2) → storeSelf B k (.long x) = some ((B.setIfInBounds k (.val (.long x))).setIfInBounds (k + 1) .second) := by
    intro B u hB hu hc
    have e2 : (B.setIfInBounds k (.val (.long x)))[k + 1]? = some u := by
      rw [Array.getElem?_setIfInBounds_ne (by omega)]; exact hu
    have e3 : setAt B k (.val (.long x)) = some (B.setIfInBounds k (.val (.long x))) := by simp [setAt, hB, i0]
    have e4 := s1 (B.setIfInBounds k (.val (.long x))) (by simp [hB])
    unfold storeSelf
    rw [e3]
    simp only [Option.bind_eq_bind, Option.bind_some, Value.category, if_true, e2]
    cases u with
    | unset => exact e4
    | second => exact e4
    | val w =>
      have := hc w rfl
      simp only [Value.category] at this
      simp only [this, if_false]
      exact e4
  have n1 : ∀ w, upS b o' = .val w → w.category ≠ 2 := by
    intro w hw
    cases o' with
    | unset => cases hw
    | second => cases hw
    | val v => cases hw; rw [cat_up]; intro q; simp [notL, q] at ho'
  rcases ho with ho | ⟨z, rfl⟩
  · have a1 := oneS_up (b := b) ho
    have step : storeLocals A k (.long x) = storeSelf A k (.long x) := by
      rcases a1 with a1 | ⟨w, a1, a2⟩
      · simp [storeLocals, e0, a1]
      · simp [storeLocals, e0, a1, a2]
    rw [step]
    exact self A _ rfl e1 n1
  · have step : storeLocals A k (.long x) = storeSelf (A.setIfInBounds (k + 1) .unset) k (.long x) := by
      have e3 : setAt A (k + 1) .unset = some (A.setIfInBounds (k + 1) .unset) := by simp [setAt, i1]
      unfold storeLocals
      rw [e0]
      simp only [upS, upV, Option.bind_eq_bind, Option.bind_some, Value.category, if_true, e3]
    rw [step, self (A.setIfInBounds (k + 1) .unset) .unset (by simp) (by simp [i1]) (fun w hw => by cases hw)]
    congr 1
    apply Array.ext_getElem?
    intro j
    simp only [Array.getElem?_setIfInBounds]
    by_cases q : k + 1 = j
    · subst q; simp
    · simp [q]
theorem go_istore {k : Nat} {o : Slot} {x : Int32} (hd : Dc bytes pc (.istore k) 2 nx) (hk : L[k]? = some o) (ho : oneS o = true) (h : Go C nx (L.set k (.val (.int x))) S H cells slots) : Go C pc L (.int x :: S) H cells slots :=
  go_pure (fun T _ _ _ X t r => by obtain ⟨hd, rfl⟩ := hd; exact XS.istore X.here C.exec rfl (hb C.bys hd) rfl (sto1 (v := .int x) hk ho rfl) r) h
theorem go_istoreN {k : Fin 4} {o : Slot} {x : Int32} (hd : Dc bytes pc (.istore_n k) 1 nx) (hk : L[k.val]? = some o) (ho : oneS o = true) (h : Go C nx (L.set k.val (.val (.int x))) S H cells slots) : Go C pc L (.int x :: S) H cells slots :=
  go_pure (fun T _ _ _ X t r => by obtain ⟨hd, rfl⟩ := hd; exact XS.istoreN X.here C.exec rfl (hb C.bys hd) rfl (sto1 (v := .int x) hk ho rfl) r) h
theorem cat_ref {v : Value} (h : v.isRef = true) : v.category = 1 := by cases v <;> first | rfl | cases h
theorem go_astore {k : Nat} {o : Slot} {v : Value} (hd : Dc bytes pc (.astore k) 2 nx) (hk : L[k]? = some o) (ho : oneS o = true) (hv : v.isRef = true) (h : Go C nx (L.set k (.val v)) S H cells slots) : Go C pc L (v :: S) H cells slots :=
  go_pure (fun T _ _ _ X t r => by obtain ⟨hd, rfl⟩ := hd; exact XS.astore X.here C.exec rfl (hb C.bys hd) rfl ((isRef_up b v).trans hv) (sto1 (v := v) hk ho (cat_ref hv)) r) h
theorem go_astoreN {k : Fin 4} {o : Slot} {v : Value} (hd : Dc bytes pc (.astore_n k) 1 nx) (hk : L[k.val]? = some o) (ho : oneS o = true) (hv : v.isRef = true) (h : Go C nx (L.set k.val (.val v)) S H cells slots) : Go C pc L (v :: S) H cells slots :=
  go_pure (fun T _ _ _ X t r => by obtain ⟨hd, rfl⟩ := hd; exact XS.astoreN X.here C.exec rfl (hb C.bys hd) rfl ((isRef_up b v).trans hv) (sto1 (v := v) hk ho (cat_ref hv)) r) h
theorem go_lstore {k : Nat} {o o' : Slot} {x : Int64} (hd : Dc bytes pc (.lstore k) 2 nx) (hk : L[k]? = some o) (hk' : L[k + 1]? = some o') (ho : oneS o = true ∨ ∃ z, o = .val (.long z)) (ho' : notL o' = true) (h : Go C nx ((L.set k (.val (.long x))).set (k + 1) .second) S H cells slots) : Go C pc L (.long x :: S) H cells slots :=
  go_pure (fun T _ _ _ X t r => by obtain ⟨hd, rfl⟩ := hd; exact XT.lstore X.here C.exec rfl (hb C.bys hd) rfl (sto2 hk hk' ho ho') r) h
theorem go_lstoreN {k : Fin 4} {o o' : Slot} {x : Int64} (hd : Dc bytes pc (.lstore_n k) 1 nx) (hk : L[k.val]? = some o) (hk' : L[k.val + 1]? = some o') (ho : oneS o = true ∨ ∃ z, o = .val (.long z)) (ho' : notL o' = true) (h : Go C nx ((L.set k.val (.val (.long x))).set (k.val + 1) .second) S H cells slots) : Go C pc L (.long x :: S) H cells slots :=
  go_pure (fun T _ _ _ X t r => by obtain ⟨hd, rfl⟩ := hd; exact XT.lstoreN X.here C.exec rfl (hb C.bys hd) rfl (sto2 hk hk' ho ho') r) h
theorem go_iinc {k : Nat} {i : Int} {x z : Int32} (hd : Dc bytes pc (.iinc k i) 3 nx) (hk : L[k]? = some (.val (.int x))) (hz : Int32.ofInt i = z) (h : Go C nx (L.set k (.val (.int (x + z)))) S H cells slots) : Go C pc L S H cells slots :=
  go_pure (fun T _ _ _ X t r => by obtain ⟨hd, rfl⟩ := hd; subst hz; exact XS.iinc X.here C.exec rfl (hb C.bys hd) (getL hk) (sto1 (v := .int (x + Int32.ofInt i)) hk rfl rfl) r) h
/-! ### the heap -/
theorem cell_arr {i : Nat} {ty : FieldType} {vs : List Value} {h : Heap} (RR : Rel Z a0 b H h) (hH : H[i]? = some (ar ty vs)) : ∃ c : Cell, Arr Z h (b + i) c ty ∧ c.slots = (vs.map (upV b)).toArray := by
  obtain ⟨c, A, e, -⟩ := RR.2 i _ hH
  exact ⟨c, A, e⟩
theorem cell_exa {i : Nat} {ty : FieldType} {vs : List Value} {h : Heap} (RR : Rel Z a0 b H h) (hH : H[i]? = some (ar ty vs)) : Exa Z h (b + i) ("[" ++ ty.toString) := by
  obtain ⟨c, A, e, E⟩ := RR.2 i _ hH
  exact E
theorem idx_ok {j : Int32} {k n : Nat} (hj : j.toInt = (k : Int)) (hk : k < n) : ¬ (j < 0 ∨ n ≤ j.toNatClampNeg) := by
  rw [Int32.lt_iff_toInt_lt]
  have e0 : (0 : Int32).toInt = 0 := rfl
  simp only [Int32.toNatClampNeg, hj, e0]
  omega
theorem clamp_eq {j : Int32} {k : Nat} (hj : j.toInt = (k : Int)) : j.toNatClampNeg = k := by simp [Int32.toNatClampNeg, hj]
theorem go_iaload {i k : Nat} {vs : List Value} {j : Int32} {v : Value} (hd : Dc bytes pc .iaload 1 nx) (hH : H[i]? = some (ar .int vs)) (hj : j.toInt = (k : Int)) (hv : vs[k]? = some v) (h : Go C nx L (v :: S) H cells slots) : Go C pc L (.int j :: .ref i :: S) H cells slots := by
  intro T locs X N RR
  obtain ⟨c1, A, e1⟩ := cell_arr RR hH
  obtain ⟨hd, rfl⟩ := hd
  have hk : k < vs.length := (List.getElem?_eq_some_iff.mp hv).1
  exact (h T locs X N RR).back fun t r => X.iaload C.exec A.1 (State.isArrayOf_alike C.warm.alike A.2.1) A.2.2 (idx_ok hj (by rw [e1]; simpa using hk)) (by rw [clamp_eq hj, e1]; simp [hv]) (g := frm b m pc L (.int j :: .ref i :: S)) rfl rfl (hb C.bys hd) t r
theorem go_laload {i k : Nat} {vs : List Value} {j : Int32} {v : Value} (hd : Dc bytes pc .laload 1 nx) (hH : H[i]? = some (ar .long vs)) (hj : j.toInt = (k : Int)) (hv : vs[k]? = some v) (h : Go C nx L (v :: S) H cells slots) : Go C pc L (.int j :: .ref i :: S) H cells slots := by
  intro T locs X N RR
  obtain ⟨c1, A, e1⟩ := cell_arr RR hH
  obtain ⟨hd, rfl⟩ := hd
  have hk : k < vs.length := (List.getElem?_eq_some_iff.mp hv).1
  exact (h T locs X N RR).back fun t r => X.laload C.exec A.1 (State.isArrayOf_alike C.warm.alike A.2.1) A.2.2 (idx_ok hj (by rw [e1]; simpa using hk)) (by rw [clamp_eq hj, e1]; simp [hv]) (g := frm b m pc L (.int j :: .ref i :: S)) rfl rfl (hb C.bys hd) t r
theorem go_baload {i k : Nat} {vs : List Value} {j : Int32} {v : Value} (hd : Dc bytes pc .baload 1 nx) (hH : H[i]? = some (ar .byte vs)) (hj : j.toInt = (k : Int)) (hv : vs[k]? = some v) (h : Go C nx L (v :: S) H cells slots) : Go C pc L (.int j :: .ref i :: S) H cells slots := by
  intro T locs X N RR
  obtain ⟨c1, A, e1⟩ := cell_arr RR hH
  obtain ⟨hd, rfl⟩ := hd
  have hk : k < vs.length := (List.getElem?_eq_some_iff.mp hv).1
  exact (h T locs X N RR).back fun t r => X.baloadBytes C.exec A.1 (State.isArrayOf_alike C.warm.alike A.2.1) A.2.2 (idx_ok hj (by rw [e1]; simpa using hk)) (by rw [clamp_eq hj, e1]; simp [hv]) (g := frm b m pc L (.int j :: .ref i :: S)) rfl rfl (hb C.bys hd) t r
theorem go_zaload {i k : Nat} {vs : List Value} {j : Int32} {v : Value} (hd : Dc bytes pc .baload 1 nx) (hH : H[i]? = some (ar .boolean vs)) (hj : j.toInt = (k : Int)) (hv : vs[k]? = some v) (h : Go C nx L (v :: S) H cells slots) : Go C pc L (.int j :: .ref i :: S) H cells slots := by
  intro T locs X N RR
  obtain ⟨c1, A, e1⟩ := cell_arr RR hH
  obtain ⟨hd, rfl⟩ := hd
  have hk : k < vs.length := (List.getElem?_eq_some_iff.mp hv).1
  exact (h T locs X N RR).back fun t r => X.baloadBooleans C.exec A.1 (State.isArrayOf_alike C.warm.alike A.2.1) A.2.2 (idx_ok hj (by rw [e1]; simpa using hk)) (by rw [clamp_eq hj, e1]; simp [hv]) (g := frm b m pc L (.int j :: .ref i :: S)) rfl rfl (hb C.bys hd) t r
theorem go_aaload {i k : Nat} {ty : FieldType} {vs : List Value} {j : Int32} {v : Value} (hd : Dc bytes pc .aaload 1 nx) (hH : H[i]? = some (ar ty vs)) (hty : ty.isReference = true) (hj : j.toInt = (k : Int)) (hv : vs[k]? = some v) (h : Go C nx L (v :: S) H cells slots) : Go C pc L (.int j :: .ref i :: S) H cells slots := by
  intro T locs X N RR
  obtain ⟨c1, A, e1⟩ := cell_arr RR hH
  obtain ⟨hd, rfl⟩ := hd
  have hk : k < vs.length := (List.getElem?_eq_some_iff.mp hv).1
  exact (h T locs X N RR).back fun t r => X.aaload C.exec A.1 (State.isArrayOf_alike C.warm.alike A.2.1) hty A.2.2 (idx_ok hj (by rw [e1]; simpa using hk)) (by rw [clamp_eq hj, e1]; simp [hv]) (g := frm b m pc L (.int j :: .ref i :: S)) rfl rfl (hb C.bys hd) t r
theorem go_len {i : Nat} {ty : FieldType} {vs : List Value} {n : Int32} (hd : Dc bytes pc .arraylength 1 nx) (hH : H[i]? = some (ar ty vs)) (hn : vs.length.toInt32 = n) (h : Go C nx L (.int n :: S) H cells slots) : Go C pc L (.ref i :: S) H cells slots := by
  intro T locs X N RR
  obtain ⟨c1, A, e1⟩ := cell_arr RR hH
  obtain ⟨hd, rfl⟩ := hd
  subst hn
  refine (h T locs X N RR).back fun t k => X.arraylength C.exec A.1 (State.isArrayOf_alike C.warm.alike A.2.1) (g := frm b m pc L (.ref i :: S)) rfl rfl (hb C.bys hd) t ?_
  have e2 : c1.slots.size = vs.length := by rw [e1]; simp
  rw [e2]
  exact k
theorem go_getfield {i j idx : Nat} {Cn n d : String} {fs : List (String × String × Value)} {v : Value} (hd : Dc bytes pc (.getfield idx) 3 nx) (w : Jvm.Cond.fieldLink y.cls idx Cn n d ∈ W) (hH : H[i]? = some (ob Cn fs)) (hf : fs[j]? = some (n, d, v)) (h : Go C nx L (v :: S) H cells slots) : Go C pc L (.ref i :: S) H cells slots := by
  intro T locs X N RR
  obtain ⟨hd, rfl⟩ := hd
  have K : CellOk Z a0 b T.heap (b + i) (ob Cn fs) := RR.2 i _ hH
  obtain ⟨T1, X1, e1, st⟩ := getF X C.exec C.warm C.own (host := "") (Or.inl (C.hw _ w)) Via.refl rfl (K.2.1 _ (List.mem_of_getElem? hf)).1 (g := frm b m pc L (.ref i :: S)) rfl rfl (hb C.bys hd)
  exact (h T1 locs X1 N (by rw [e1]; exact RR)).back st
theorem go_getfieldN {i j idx : Nat} {Cn n d host : String} {fs : List (String × String × Value)} {v : Value} (hd : Dc bytes pc (.getfield idx) 3 nx) (w : Jvm.Cond.fieldLinkNest y.cls idx Cn n d host ∈ W) (hH : H[i]? = some (ob Cn fs)) (hf : fs[j]? = some (n, d, v)) (h : Go C nx L (v :: S) H cells slots) : Go C pc L (.ref i :: S) H cells slots := by
  intro T locs X N RR
  obtain ⟨hd, rfl⟩ := hd
  have K : CellOk Z a0 b T.heap (b + i) (ob Cn fs) := RR.2 i _ hH
  obtain ⟨T1, X1, e1, st⟩ := getF X C.exec C.warm C.own (Or.inr (C.hw _ w)) Via.refl rfl (K.2.1 _ (List.mem_of_getElem? hf)).1 (g := frm b m pc L (.ref i :: S)) rfl rfl (hb C.bys hd)
  exact (h T1 locs X1 N (by rw [e1]; exact RR)).back st
theorem go_putfieldN {i j idx kk : Nat} {Cn n d : String} {fs : List (String × String × Value)} {v v' o : Value} {ty : FieldType} (hd : Dc bytes pc (.putfield idx) 3 nx) (w : Jvm.Cond.fieldLink y.cls idx Cn n d ∈ W) (wl : Jvm.Cond.lays Cn Cn n d ∈ W ∨ (Jvm.Cond.laysFinal Cn Cn n d ∈ W ∧ y.cls = Cn ∧ y.name = "<init>")) (wi : Jvm.Cond.instantiable Cn kk ∈ W) (hty : parseFieldDescriptor d = some ty) (hH : H[i]? = some (ob Cn fs)) (hf : fs[j]? = some (n, d, o)) (hn : narrow ty (upV b v) = upV b v') (hfit : fits ty (upV b v') = true)
    (h : Go C nx L S (H.set i (ob Cn (fs.set j (n, d, v')))) cells slots) : Go C pc L (v :: .ref i :: S) H cells slots := by
  intro T locs X N RR
  obtain ⟨hd, rfl⟩ := hd
  have K : CellOk Z a0 b T.heap (b + i) (ob Cn fs) := RR.2 i _ hH
  obtain ⟨T1, h1, X1, e1, W1, st⟩ := putFN X C.exec C.warm C.own (C.hw _ w) Via.refl rfl (K.2.1 _ (List.mem_of_getElem? hf)).1 K.1 (wl.imp (fun q => C.hw _ q) (fun q => ⟨C.hw _ q.1, q.2.1, C.named.trans q.2.2⟩)) (C.hw _ wi) hty hn hfit (g := frm b m pc L (v :: .ref i :: S)) rfl rfl (hb C.bys hd)
  exact (h T1 _ X1 (Fr.snoc X1 N (Nat.le_add_right ..)) (by rw [e1]; exact RR.wr W1 (K.fset hf W1))).back st
theorem go_putfield {i j idx kk : Nat} {Cn n d : String} {fs : List (String × String × Value)} {v o : Value} {ty : FieldType} (hd : Dc bytes pc (.putfield idx) 3 nx) (w : Jvm.Cond.fieldLink y.cls idx Cn n d ∈ W) (wl : Jvm.Cond.lays Cn Cn n d ∈ W ∨ (Jvm.Cond.laysFinal Cn Cn n d ∈ W ∧ y.cls = Cn ∧ y.name = "<init>")) (wi : Jvm.Cond.instantiable Cn kk ∈ W) (hty : parseFieldDescriptor d = some ty) (hH : H[i]? = some (ob Cn fs)) (hf : fs[j]? = some (n, d, o)) (hn : narrow ty (upV b v) = upV b v) (hfit : fits ty (upV b v) = true)
    (h : Go C nx L S (H.set i (ob Cn (fs.set j (n, d, v)))) cells slots) : Go C pc L (v :: .ref i :: S) H cells slots := go_putfieldN hd w wl wi hty hH hf hn hfit h
theorem go_iastore {i k : Nat} {vs : List Value} {j : Int32} {x : Int32} (hd : Dc bytes pc .iastore 1 nx) (hH : H[i]? = some (ar .int vs)) (hj : j.toInt = (k : Int)) (hk : k < vs.length) (h : Go C nx L S (H.set i (ar .int (vs.set k (.int (x))))) cells slots) : Go C pc L (.int x :: .int j :: .ref i :: S) H cells slots := by
  intro T locs X N RR
  obtain ⟨c1, A, e1⟩ := cell_arr RR hH
  obtain ⟨hd, rfl⟩ := hd
  obtain ⟨T1, h1, X1, eh, W1, st⟩ := stI X C.exec C.warm rfl A (j := j) (idx_ok hj (by rw [e1]; simpa using hk)) (g := frm b m pc L (.int x :: .int j :: .ref i :: S)) rfl rfl (hb C.bys hd)
  rw [clamp_eq hj] at W1
  have K : CellOk Z a0 b h1 (b + i) (ar .int (vs.set k (.int (x)))) := ⟨_, A.same W1, by simp [Cell.setSlot, e1, List.map_set, upV, nar], (cell_exa RR hH).wr W1⟩
  exact (h T1 _ X1 (Fr.snoc X1 N (Nat.le_add_right ..)) (by rw [eh]; exact RR.wr W1 K)).back st
theorem go_lastore {i k : Nat} {vs : List Value} {j : Int32} {x : Int64} (hd : Dc bytes pc .lastore 1 nx) (hH : H[i]? = some (ar .long vs)) (hj : j.toInt = (k : Int)) (hk : k < vs.length) (h : Go C nx L S (H.set i (ar .long (vs.set k (.long (x))))) cells slots) : Go C pc L (.long x :: .int j :: .ref i :: S) H cells slots := by
  intro T locs X N RR
  obtain ⟨c1, A, e1⟩ := cell_arr RR hH
  obtain ⟨hd, rfl⟩ := hd
  obtain ⟨T1, h1, X1, eh, W1, st⟩ := stJ X C.exec C.warm rfl A (j := j) (idx_ok hj (by rw [e1]; simpa using hk)) (g := frm b m pc L (.long x :: .int j :: .ref i :: S)) rfl rfl (hb C.bys hd)
  rw [clamp_eq hj] at W1
  have K : CellOk Z a0 b h1 (b + i) (ar .long (vs.set k (.long (x)))) := ⟨_, A.same W1, by simp [Cell.setSlot, e1, List.map_set, upV, nar], (cell_exa RR hH).wr W1⟩
  exact (h T1 _ X1 (Fr.snoc X1 N (Nat.le_add_right ..)) (by rw [eh]; exact RR.wr W1 K)).back st
theorem go_bastore {i k : Nat} {vs : List Value} {j : Int32} {x : Int32} (hd : Dc bytes pc .bastore 1 nx) (hH : H[i]? = some (ar .byte vs)) (hj : j.toInt = (k : Int)) (hk : k < vs.length) (h : Go C nx L S (H.set i (ar .byte (vs.set k (.int (x.toInt8.toInt32))))) cells slots) : Go C pc L (.int x :: .int j :: .ref i :: S) H cells slots := by
  intro T locs X N RR
  obtain ⟨c1, A, e1⟩ := cell_arr RR hH
  obtain ⟨hd, rfl⟩ := hd
  obtain ⟨T1, h1, X1, eh, W1, st⟩ := stB X C.exec C.warm rfl A (j := j) (idx_ok hj (by rw [e1]; simpa using hk)) (g := frm b m pc L (.int x :: .int j :: .ref i :: S)) rfl rfl (hb C.bys hd)
  rw [clamp_eq hj] at W1
  have K : CellOk Z a0 b h1 (b + i) (ar .byte (vs.set k (.int (x.toInt8.toInt32)))) := ⟨_, A.same W1, by simp [Cell.setSlot, e1, List.map_set, upV, nar], (cell_exa RR hH).wr W1⟩
  exact (h T1 _ X1 (Fr.snoc X1 N (Nat.le_add_right ..)) (by rw [eh]; exact RR.wr W1 K)).back st
theorem go_zastore {i k : Nat} {vs : List Value} {j : Int32} {x : Int32} (hd : Dc bytes pc .bastore 1 nx) (hH : H[i]? = some (ar .boolean vs)) (hj : j.toInt = (k : Int)) (hk : k < vs.length) (h : Go C nx L S (H.set i (ar .boolean (vs.set k (.int (x &&& 1))))) cells slots) : Go C pc L (.int x :: .int j :: .ref i :: S) H cells slots := by
  intro T locs X N RR
  obtain ⟨c1, A, e1⟩ := cell_arr RR hH
  obtain ⟨hd, rfl⟩ := hd
  obtain ⟨T1, h1, X1, eh, W1, st⟩ := stZ X C.exec C.warm rfl A (j := j) (idx_ok hj (by rw [e1]; simpa using hk)) (g := frm b m pc L (.int x :: .int j :: .ref i :: S)) rfl rfl (hb C.bys hd)
  rw [clamp_eq hj] at W1
  have K : CellOk Z a0 b h1 (b + i) (ar .boolean (vs.set k (.int (x &&& 1)))) := ⟨_, A.same W1, by simp [Cell.setSlot, e1, List.map_set, upV, nar], (cell_exa RR hH).wr W1⟩
  exact (h T1 _ X1 (Fr.snoc X1 N (Nat.le_add_right ..)) (by rw [eh]; exact RR.wr W1 K)).back st
/-- the fields of a new object, laid -/
def Laids (Z : State) (a0 : Array Value) (b : Nat) (Cn : String) : List (String × String × Value) → Prop
  | [] => True
  | f :: fs => (Laid Z a0 Cn Cn f.1 f.2.1 ∧ ∃ t, parseFieldDescriptor f.2.1 = some t ∧ defaultValue t = upV b f.2.2) ∧ Laids Z a0 b Cn fs
theorem Laids.all {Cn : String} : ∀ {fs : List (String × String × Value)}, Laids Z a0 b Cn fs → ∀ f ∈ fs, Laid Z a0 Cn Cn f.1 f.2.1 ∧ ∃ t, parseFieldDescriptor f.2.1 = some t ∧ defaultValue t = upV b f.2.2
  | [], _, f, hf => by cases hf
  | g :: gs, h, f, hf => by
    rcases List.mem_cons.mp hf with rfl | hf
    · exact h.1
    · exact Laids.all h.2 f hf
theorem go_new {idx n : Nat} {Cn : String} {fs : List (String × String × Value)} (hd : Dc bytes pc (.new idx) 3 nx) (w : Jvm.Cond.classLink y.cls idx Cn ∈ W) (wi : Jvm.Cond.instantiable Cn n ∈ W) (wz : Jvm.Cond.initialized Cn ∈ W) (hl : Laids Z a0 b Cn fs) (hnd : (fs.map (·.1)).Nodup) (hc : cells + 1 ≤ R.cells) (hs : slots + n ≤ R.slots)
    (h : Go C nx L (.ref H.length :: S) (H ++ [ob Cn fs]) (cells + 1) (slots + n)) : Go C pc L S H cells slots := by
  intro T locs X N RR
  obtain ⟨hd, rfl⟩ := hd
  obtain ⟨vm', cC, kC, h1, h2, h3, h4, X', st⟩ := X.newCold C.exec C.own (mv C.warm (C.hw _ w)) (mv C.warm (C.hw _ wi)) (mv C.warm (C.hw _ wz)) (g := frm b m pc L S) rfl (hb C.bys hd) hc hs
  rw [C.warm.alike.findClass] at h1
  obtain ⟨kZ, z1, -⟩ := Vm.findClass_spec h1
  obtain ⟨k', z2, z3⟩ := C.warm.alike.2.2 _ _ z1
  cases h2.symm.trans z2
  have ei : kC.instanceTypes = kZ.instanceTypes := by rw [z3]
  have hN : (T.heap.push { cls := cC, slots := kC.instanceTypes.map defaultValue, vm := .none })[T.heap.size]? = some { cls := cC, slots := kC.instanceTypes.map defaultValue, vm := .none } := by simp
  have hE : Ext T.heap (T.heap.push { cls := cC, slots := kC.instanceTypes.map defaultValue, vm := .none }) := ⟨by simp, fun a c q => by
    rw [Array.getElem?_push_lt (Array.getElem?_eq_some_iff.mp q).1]; exact (Array.getElem?_eq_getElem _).symm.trans q⟩
  have ea : T.heap.size = b + H.length := RR.1
  have st2 := st
  rw [ea] at st2
  refine (h _ locs X' N (RR.push hE (by simp) ?_)).back st2
  rw [← ea]
  refine ⟨⟨_, kZ, hN, h1, z1, rfl, fun _ => by simp [ei]⟩, fun f hf => ?_, hnd⟩
  obtain ⟨La, t, ht, hdv⟩ := hl.all f hf
  refine ⟨?_, La, t, ht⟩
  obtain ⟨c1, k1, cf, kf, i, ff, a1, a2, a3, a4, a5, a6, -⟩ := La.spec
  cases h1.symm.trans a1
  cases z1.symm.trans a2
  exact ⟨_, cf, kf, i, ff, hN, a3, a4, by simp, rfl, a5, by simp [ei, a6, (State.fieldFound?_type a3 ht).2, hdv]⟩
theorem up_default (t : FieldType) : upV b (defaultValue t) = defaultValue t := by cases t <;> rfl
theorem go_newarray {aty : ArrayType} {n : Int32} {k cap : Nat} {vs : List Value} (hd : Dc bytes pc (.newarray aty) 2 nx) (w : Jvm.Cond.arrayClass (newarray.typeOf aty) ∈ W) (hn : n.toInt = (k : Int)) (hv : List.replicate k (defaultValue (newarray.typeOf aty)) = vs) (hcap : k ≤ cap) (hbig : cap * 8 ≤ 536870912) (hc : cells + 1 ≤ R.cells) (hs : slots + cap ≤ R.slots)
    (h : Go C nx L (.ref H.length :: S) (H ++ [ar (newarray.typeOf aty) vs]) (cells + 1) (slots + cap)) : Go C pc L (.int n :: S) H cells slots := by
  intro T locs X N RR
  obtain ⟨hd, rfl⟩ := hd
  have hcb : componentBytes (newarray.typeOf aty) ≤ 8 := by cases aty <;> decide
  have ek := clamp_eq hn
  obtain ⟨cA, kA, comp, h1, h2, h3, X', st⟩ := X.newarrayPrim C.exec (mvA C.warm (C.hw _ w)) (g := frm b m pc L (.int n :: S)) rfl (hb C.bys hd) rfl (by rw [Int32.lt_iff_toInt_lt, hn]; have : (0 : Int32).toInt = 0 := rfl; omega) (by rw [ek]; exact Nat.le_trans (Nat.mul_le_mul hcap hcb) hbig) hc (by omega)
  rw [ek] at X' st
  rw [C.warm.alike.findClass] at h1
  obtain ⟨kZ, z1, -⟩ := Vm.findClass_spec h1
  obtain ⟨k', z2, z3⟩ := C.warm.alike.2.2 _ _ z1
  cases h2.symm.trans z2
  have ea : T.heap.size = b + H.length := RR.1
  have hE : Ext T.heap (T.heap.push { cls := cA, slots := Array.replicate k (defaultValue (newarray.typeOf aty)), vm := .none }) := ⟨by simp, fun a c q => by
    rw [Array.getElem?_push_lt (Array.getElem?_eq_some_iff.mp q).1]; exact (Array.getElem?_eq_getElem _).symm.trans q⟩
  have st2 := st
  rw [ea] at st2
  refine (h _ locs (X'.more (Nat.le_refl _) (by omega)) N (RR.push hE (by simp) ?_)).back st2
  rw [← ea]
  have hkind : kZ.kind = .array comp (newarray.typeOf aty) := by rw [← h3, z3]
  have hN : (T.heap.push { cls := cA, slots := Array.replicate k (defaultValue (newarray.typeOf aty)), vm := .none })[T.heap.size]? = some { cls := cA, slots := Array.replicate k (defaultValue (newarray.typeOf aty)), vm := .none } := by simp
  refine ⟨_, ⟨hN, ⟨by simp, kZ, z1, comp, hkind⟩, by simp⟩, ?_, ⟨_, kZ, hN, h1, z1, rfl, fun q => by rw [hkind] at q; cases q⟩⟩
  subst hv
  simp [up_default]
theorem go_clone {i idx cap : Nat} {vs : List Value} (hd : Dc bytes pc (.invokevirtual idx) 3 nx) (w1 : Jvm.Cond.methodLink y.cls idx ⟨"[I", "clone", "()Ljava/lang/Object;"⟩ ∈ W) (w2 : Jvm.Cond.sameMethod "[I" "java/lang/Object" "clone" "()Ljava/lang/Object;" ∈ W) (w3 : Jvm.Cond.native ⟨"java/lang/Object", "clone", "()Ljava/lang/Object;"⟩ ∈ W)
    (w4 : Jvm.Cond.instanceMethod ⟨"java/lang/Object", "clone", "()Ljava/lang/Object;"⟩ ∈ W) (w5 : Jvm.Cond.selects "[I" ⟨"[I", "clone", "()Ljava/lang/Object;"⟩ ⟨"java/lang/Object", "clone", "()Ljava/lang/Object;"⟩ ∈ W) (w6 : Jvm.Cond.castable "[I" "java/lang/Cloneable" ∈ W)
    (hH : H[i]? = some (ar .int vs)) (hvi : ∀ v ∈ vs, ∃ x : Int32, v = .int x) (hL : L.length = nL) (hf : 1 ≤ R.frames) (wdt : Nat) (hwd : (S.map Value.category).sum ≤ wdt) (hlo : wdt + 14 ≤ R.locals) (hcap : vs.length ≤ cap) (hc : cells + 1 ≤ R.cells) (hs : slots + cap ≤ R.slots)
    (h : Go C nx L (.ref H.length :: S) (H ++ [ar .int vs]) (cells + 1) (slots + cap)) : Go C pc L (.ref i :: S) H cells slots := by
  intro T locs X N RR
  obtain ⟨hd, rfl⟩ := hd
  obtain ⟨cl, A, es⟩ := cell_arr RR hH
  obtain ⟨c2, k, e1, e2, e3, -, e5⟩ := cell_exa RR hH
  cases A.1.symm.trans e1
  have e2' : Z.vm.findClass "[I" = some cl.cls := e2
  obtain ⟨c1, cC, g1, g2, g3⟩ := Cond.castable_spec (C.hw _ w6)
  cases e2'.symm.trans g1
  have hal : Z.vm.Alike T.vm := C.warm.alike.trans X.warmed.alike
  obtain ⟨hst, k2, hk2, comp, hkind⟩ := A.2.1
  have hsz : cl.slots.size = vs.length := by rw [es]; simp
  have hfit : ∀ (j : Nat) (v : Value), cl.slots[j]? = some v → T.fitsSlot cl.cls .none j v = true := by
    intro j v hv
    have q : Z.fitsSlot cl.cls .none j v = true := by
      rw [es] at hv
      simp only [List.getElem?_toArray, List.getElem?_map, Option.map_eq_some_iff] at hv
      obtain ⟨u, hu, rfl⟩ := hv
      obtain ⟨x, rfl⟩ := hvi u (List.mem_of_getElem? hu)
      have : Z.slotType? cl.cls .none j = some .int := by simp [State.slotType?, hk2, hkind]
      simp [State.fitsSlot, this, upV, fits]
    rw [← State.fitsSlot_setVm hal] at q
    exact q
  obtain ⟨vm', X', st⟩ := X.cloneArray C.exec C.own (mv C.warm (C.hw _ w1)) (mv C.warm (C.hw _ w2)) (mv C.warm (C.hw _ w3)) (mv C.warm (C.hw _ w4)) (mv C.warm (C.hw _ w5)) (a := b + i) A.1 hst A.2.2 (by rw [C.warm.alike.findClass]; exact e2') (by rw [C.warm.alike.findClass]; exact g2) (by rw [C.warm.alike.assignable]; exact g3)
    hfit (g := frm b m pc L (.ref i :: S)) rfl (by simp [C.ml, hL]) rfl (hb C.bys hd) hf (by
      have : ((S.map (upV b)).map fun v => v.category) = S.map Value.category := by rw [List.map_map]; exact List.map_congr_left fun v _ => cat_up b v
      show 2 * 0 + ((S.map (upV b)).map fun v => v.category).sum + 14 ≤ _
      rw [this]; omega) hc (by rw [hsz]; omega) (by rw [C.warm.alike.clonesLoader]; exact Vm.clonesLoader_of_array hk2 hkind)
  rw [hsz] at X'
  have ea : T.heap.size = b + H.length := RR.1
  have hE : Ext T.heap (T.heap.push { cls := cl.cls, slots := cl.slots }) := ⟨by simp, fun a c q => by
    rw [Array.getElem?_push_lt (Array.getElem?_eq_some_iff.mp q).1]; exact (Array.getElem?_eq_getElem _).symm.trans q⟩
  have hN : (T.heap.push { cls := cl.cls, slots := cl.slots })[T.heap.size]? = some { cls := cl.cls, slots := cl.slots } := by simp
  have st2 := st
  rw [ea] at st2
  refine (h _ locs (X'.more (Nat.le_refl _) (by omega)) N (RR.push hE (by simp) ?_)).back st2
  rw [← ea]
  exact ⟨_, ⟨hN, ⟨by simp, k2, hk2, comp, hkind⟩, by simp⟩, es, ⟨_, k, hN, e2, e3, rfl, e5⟩⟩
theorem go_castA {i idx : Nat} {ty : FieldType} {vs : List Value} (hd : Dc bytes pc (.checkcast idx) 3 nx) (w : Jvm.Cond.classLink y.cls idx ("[" ++ ty.toString) ∈ W) (hH : H[i]? = some (ar ty vs)) (h : Go C nx L (.ref i :: S) H cells slots) : Go C pc L (.ref i :: S) H cells slots := by
  intro T locs X N RR
  obtain ⟨hd, rfl⟩ := hd
  obtain ⟨T1, X1, e1, st⟩ := castY X C.exec C.warm C.own (C.hw _ w) rfl (Ins.self (cell_exa RR hH)) (g := frm b m pc L (.ref i :: S)) rfl rfl (hb C.bys hd)
  exact (h T1 locs X1 N (by rw [e1]; exact RR)).back st
/-! ### calls -/
theorem go_initO {idx : Nat} (hd : Dc bytes pc (.invokespecial idx) 3 nx) (w1 : Jvm.Cond.methodLink y.cls idx Lib.objectInit ∈ W) (w2 : Jvm.Cond.instanceMethod Lib.objectInit ∈ W) (w3 : Jvm.Cond.code Lib.objectInit ⟨#[0xb1]⟩ 1 none ∈ W) (hL : L.length = nL) (hf : 1 ≤ R.frames) (wdt : Nat) (hwd : (S.map Value.category).sum ≤ wdt) (hlo : wdt + 12 ≤ R.locals) {i : Nat}
    (h : Go C nx L S H cells slots) : Go C pc L (.ref i :: S) H cells slots := by
  intro T locs X N RR
  obtain ⟨hd, rfl⟩ := hd
  obtain ⟨T1, X1, e1, st⟩ := initO X C.exec C.warm C.own (C.hw _ w1) (C.hw _ w2) (C.hw _ w3) rfl (g := frm b m pc L (.ref i :: S)) rfl (by simp [C.ml, hL]) rfl (hb C.bys hd) hf (W := wdt) (by
    have : ((S.map (upV b)).map fun v => v.category) = S.map Value.category := by rw [List.map_map]; exact List.map_congr_left fun v _ => cat_up b v
    show 2 * 0 + ((S.map (upV b)).map fun v => v.category).sum ≤ wdt
    rw [this]; omega) hlo
  exact (h T1 locs X1 N (by rw [e1]; exact RR)).back st
theorem wid_up (wdt : Nat) (hwd : (S.map Value.category).sum ≤ wdt) : 2 * 0 + ((S.map (upV b)).map fun v => v.category).sum ≤ wdt := by
  have : ((S.map (upV b)).map fun v => v.category) = S.map Value.category := by rw [List.map_map]; exact List.map_congr_left fun v _ => cat_up b v
  rw [this]; omega
theorem app_up (v : Option Value) : (v.map (upV b)).toList ++ S.map (upV b) = (v.toList ++ S).map (upV b) := by cases v <;> rfl
theorem go_virtual {y' : MethodName} {bytes' : ByteArray} {maxL : Nat} {ret' : Option FieldType} {rm : Room} {as : List Value} {i idx : Nat} {Cn : String} {fs : List (String × String × Value)} {P : Option Value → List GCell → Prop} {ps : List FieldType} {rt : Option FieldType}
    (hd : Dc bytes pc (.invokevirtual idx) 3 nx) (w1 : Jvm.Cond.methodLink y.cls idx y' ∈ W) (w2 : Jvm.Cond.declares y' ∈ W) (w3 : Jvm.Cond.selects Cn y' y' ∈ W) (w4 : Jvm.Cond.instanceMethod y' ∈ W) (w5 : Jvm.Cond.code y' bytes' maxL ret' ∈ W) (w6 : Jvm.Cond.initialized y'.cls ∈ W)
    (hy : y'.cls ≠ "java/lang/invoke/MethodHandle" ∧ y'.cls ≠ "java/lang/invoke/VarHandle") (hdesc : parseMethodDescriptor y'.desc = some ⟨ps, rt⟩) (hlen : as.length = ps.length)
    (M : Met l Z a0 b y' bytes' maxL ret' rm (.ref i :: as) H P) (hH : H[i]? = some (ob Cn fs)) (hS : S' = as.reverse ++ .ref i :: S) (hL : L.length = nL) (wdt : Nat) (hwd : (S.map Value.category).sum ≤ wdt)
    (hfr : rm.frames + 1 ≤ R.frames) (hlo : wdt + (maxL + 11) + rm.locals ≤ R.locals) (hc : cells + rm.cells ≤ R.cells) (hs : slots + rm.slots ≤ R.slots)
    (h : ∀ v H', P v H' → Go C nx L (v.toList ++ S) H' (cells + rm.cells) (slots + rm.slots)) : Go C pc L S' H cells slots := by
  intro T locs X N RR
  obtain ⟨hd, rfl⟩ := hd
  subst hS
  have E : Exa Z T.heap (b + i) Cn := (show CellOk Z a0 b T.heap (b + i) (ob Cn fs) from RR.2 i _ hH).1
  obtain ⟨cB, kB, q1, q2, q3⟩ := isOf (T := T) C.warm rfl E
  obtain ⟨_, _, ⟨T', L', k', n'⟩, -, X', ⟨Lc, hQ, l', y1, z1⟩, st⟩ := X.virtualBack C.exec (y := y') (z := y') C.own (mvT C.warm (C.hw _ w1)) (mvT C.warm (C.hw _ w2)) (notFace_of_selects (args := #[]) (mvT C.warm (C.hw _ w3))) (mvT C.warm (C.hw _ w3)) (mvT C.warm (C.hw _ w4)) hy
    (backOf (W := wdt) (M T.heap RR []) C.warm (C.hw _ w5) (C.hw _ w6) hfr hlo) q1 q3 (g := frm b m pc L (as.reverse ++ .ref i :: S)) rfl (by simp [C.ml, hL]) (Steps.refl _) (argsL := as.map (upV b)) (rest := S.map (upV b)) (lenOf hdesc (by simp [hlen])) (by simp [upV]) (wid_up wdt hwd) (hb C.bys hd) (fun _ _ => ⟨by simp [upV], rfl, hc, hs⟩)
  dsimp only [Pt.U, Pt.locs, Pt.cells, Pt.slots] at X' l' y1 z1 st hQ
  subst l' y1 z1
  obtain ⟨N2, v', H', rfl, RR', hP⟩ := hQ
  refine (h v' H' hP T' _ X' (Fr.app N N2) RR').back fun t k => st.trans ?_
  rw [app_up]
  exact k
theorem go_special {y' : MethodName} {bytes' : ByteArray} {maxL : Nat} {rm : Room} {as : List Value} {i idx : Nat} {P : Option Value → List GCell → Prop} {ps : List FieldType} {rt : Option FieldType} (hn : y'.name = "<init>")
    (hd : Dc bytes pc (.invokespecial idx) 3 nx) (w1 : Jvm.Cond.methodLink y.cls idx y' ∈ W) (w4 : Jvm.Cond.instanceMethod y' ∈ W) (w5 : Jvm.Cond.code y' bytes' maxL none ∈ W) (w6 : Jvm.Cond.initialized y'.cls ∈ W)
    (hy : y'.cls ≠ "java/lang/invoke/MethodHandle" ∧ y'.cls ≠ "java/lang/invoke/VarHandle") (hdesc : parseMethodDescriptor y'.desc = some ⟨ps, rt⟩) (hlen : as.length = ps.length)
    (M : Met l Z a0 b y' bytes' maxL none rm (.ref i :: as) H P) (hS : S' = as.reverse ++ .ref i :: S) (hL : L.length = nL) (wdt : Nat) (hwd : (S.map Value.category).sum ≤ wdt)
    (hfr : rm.frames + 1 ≤ R.frames) (hlo : wdt + (maxL + 11) + rm.locals ≤ R.locals) (hc : cells + rm.cells ≤ R.cells) (hs : slots + rm.slots ≤ R.slots)
    (h : ∀ v H', P v H' → Go C nx L (v.toList ++ S) H' (cells + rm.cells) (slots + rm.slots)) : Go C pc L S' H cells slots := by
  intro T locs X N RR
  obtain ⟨hd, rfl⟩ := hd
  subst hS
  obtain ⟨_, _, ⟨T', L', k', n'⟩, -, X', ⟨Lc, hQ, l', y1, z1⟩, st⟩ := X.specialBack C.exec (y := y') hn C.own (mvT C.warm (C.hw _ w1)) (mvT C.warm (C.hw _ w4)) (mvT C.warm (C.hw _ w5)) hy
    (backOf (W := wdt) (M T.heap RR []) C.warm (C.hw _ w5) (C.hw _ w6) hfr hlo) (g := frm b m pc L (as.reverse ++ .ref i :: S)) rfl (by simp [C.ml, hL]) (Steps.refl _) (a := b + i) (argsL := as.map (upV b)) (rest := S.map (upV b)) (lenOf hdesc (by simp [hlen])) (by simp [upV]) (wid_up wdt hwd) (hb C.bys hd) (fun _ _ => ⟨by simp [upV], rfl, hc, hs⟩)
  dsimp only [Pt.U, Pt.locs, Pt.cells, Pt.slots] at X' l' y1 z1 st hQ
  subst l' y1 z1
  obtain ⟨N2, v', H', rfl, RR', hP⟩ := hQ
  refine (h v' H' hP T' _ X' (Fr.app N N2) RR').back fun t k => st.trans ?_
  rw [app_up]
  exact k
theorem go_static {y' : MethodName} {bytes' : ByteArray} {maxL : Nat} {ret' : Option FieldType} {rm : Room} {as : List Value} {idx : Nat} {P : Option Value → List GCell → Prop} {ps : List FieldType} {rt : Option FieldType}
    (hd : Dc bytes pc (.invokestatic idx) 3 nx) (w1 : Jvm.Cond.methodLink y.cls idx y' ∈ W) (w2 : Jvm.Cond.static y' ∈ W) (w5 : Jvm.Cond.code y' bytes' maxL ret' ∈ W) (w6 : Jvm.Cond.initialized y'.cls ∈ W)
    (hy : y'.cls ≠ "java/lang/invoke/MethodHandle" ∧ y'.cls ≠ "java/lang/invoke/VarHandle") (hdesc : parseMethodDescriptor y'.desc = some ⟨ps, rt⟩) (hlen : as.length = ps.length)
    (M : Met l Z a0 b y' bytes' maxL ret' rm as H P) (hS : S' = as.reverse ++ S) (hL : L.length = nL) (wdt : Nat) (hwd : (S.map Value.category).sum ≤ wdt)
    (hfr : rm.frames + 1 ≤ R.frames) (hlo : wdt + (maxL + 11) + rm.locals ≤ R.locals) (hc : cells + rm.cells ≤ R.cells) (hs : slots + rm.slots ≤ R.slots)
    (h : ∀ v H', P v H' → Go C nx L (v.toList ++ S) H' (cells + rm.cells) (slots + rm.slots)) : Go C pc L S' H cells slots := by
  intro T locs X N RR
  obtain ⟨hd, rfl⟩ := hd
  subst hS
  obtain ⟨_, _, ⟨T', L', k', n'⟩, -, X', ⟨Lc, hQ, l', y1, z1⟩, st⟩ := Jvm.LawKit.callS X C.exec (y := y') C.own (mvT C.warm (C.hw _ w1)) (mvT C.warm (C.hw _ w2)) (mvT C.warm (C.hw _ w6)) (mvT C.warm (C.hw _ w5)) hy
    (backOf (W := wdt) (M T.heap RR []) C.warm (C.hw _ w5) (C.hw _ w6) hfr hlo) (g := frm b m pc L (as.reverse ++ S)) rfl (by simp [C.ml, hL]) (argsL := as.map (upV b)) (rest := S.map (upV b)) (lenOf hdesc (by simp [hlen])) (by simp) (wid_up wdt hwd) (hb C.bys hd) (fun _ _ => ⟨by simp, rfl, hc, hs⟩)
  dsimp only [Pt.U, Pt.locs, Pt.cells, Pt.slots] at X' l' y1 z1 st hQ
  subst l' y1 z1
  obtain ⟨N2, v', H', rfl, RR', hP⟩ := hQ
  refine (h v' H' hP T' _ X' (Fr.app N N2) RR').back fun t k => st _ ?_
  rw [app_up]
  exact k
/-! ### the end -/
theorem go_ret {w w' : Value} {t : FieldType} {i : Instr} (hd : Dc bytes pc i 1 nx) (hret : ret = some t) (hn : narrow t (upV b w) = upV b w)
    (hi : (i = .ireturn ∧ (t = .int ∨ t = .boolean ∨ t = .byte ∨ t = .char ∨ t = .short) ∧ ∃ z, w = .int z) ∨ (i = .lreturn ∧ t = .long ∧ ∃ z, w = .long z) ∨ (i = .areturn ∧ t.isReference = true ∧ w.isRef = true))
    (hc : cells ≤ R.cells) (hs : slots ≤ R.slots) (h : Post (some w) H) : Go C pc L (w :: S) H cells slots := by
  intro T locs X N RR
  obtain ⟨fs, hr, hrun, hended, hW, hsame⟩ := X.leave (v := some (upV b w)) (fun q => by rw [C.rets, hret] at q; cases q) C.nolock
  refine ⟨_, _, retOut X C.exec (t := t) (i := i) (C.rets.trans hret) hn ?_ (hb C.bys hd.1) hr, hrun, hended, _, locs, rfl, ⟨N, some w, H, rfl, RR, h⟩, ⟨_, rfl⟩, hW, hsame.mono hc hs⟩
  rcases hi with ⟨h1, h2, z, rfl⟩ | ⟨h1, h2, z, rfl⟩ | ⟨h1, h2, h3⟩
  · exact Or.inl ⟨h1, h2, z, rfl⟩
  · exact Or.inr (Or.inl ⟨h1, h2, z, rfl⟩)
  · exact Or.inr (Or.inr (Or.inr (Or.inr ⟨h1, h2, (isRef_up b w).trans h3⟩)))
theorem go_ireturn {x : Int32} (hd : Dc bytes pc .ireturn 1 nx) (hret : ret = some .int) (hc : cells ≤ R.cells) (hs : slots ≤ R.slots) (h : Post (some (.int x)) H) : Go C pc L (.int x :: S) H cells slots :=
  go_ret (w' := .null) hd hret rfl (Or.inl ⟨rfl, Or.inl rfl, _, rfl⟩) hc hs h
theorem go_zreturn {x : Int32} (hd : Dc bytes pc .ireturn 1 nx) (hret : ret = some .boolean) (hz : x &&& 1 = x) (hc : cells ≤ R.cells) (hs : slots ≤ R.slots) (h : Post (some (.int x)) H) : Go C pc L (.int x :: S) H cells slots :=
  go_ret (w' := .null) hd hret (by show Value.int (x &&& 1) = .int x; rw [hz]) (Or.inl ⟨rfl, Or.inr (Or.inl rfl), _, rfl⟩) hc hs h
theorem go_breturn {x : Int32} (hd : Dc bytes pc .ireturn 1 nx) (hret : ret = some .byte) (hz : x.toInt8.toInt32 = x) (hc : cells ≤ R.cells) (hs : slots ≤ R.slots) (h : Post (some (.int x)) H) : Go C pc L (.int x :: S) H cells slots :=
  go_ret (w' := .null) hd hret (by show Value.int (x.toInt8.toInt32) = .int x; rw [hz]) (Or.inl ⟨rfl, Or.inr (Or.inr (Or.inl rfl)), _, rfl⟩) hc hs h
theorem go_lreturn {x : Int64} (hd : Dc bytes pc .lreturn 1 nx) (hret : ret = some .long) (hc : cells ≤ R.cells) (hs : slots ≤ R.slots) (h : Post (some (.long x)) H) : Go C pc L (.long x :: S) H cells slots :=
  go_ret (w' := .null) hd hret rfl (Or.inr (Or.inl ⟨rfl, rfl, _, rfl⟩)) hc hs h
theorem narrow_ref {t : FieldType} (ht : t.isReference = true) (v : Value) : narrow t v = v := by cases t <;> first | rfl | cases ht
theorem go_areturn {v : Value} {t : FieldType} (hd : Dc bytes pc .areturn 1 nx) (hret : ret = some t) (ht : t.isReference = true) (hv : v.isRef = true) (hc : cells ≤ R.cells) (hs : slots ≤ R.slots) (h : Post (some v) H) : Go C pc L (v :: S) H cells slots :=
  go_ret (w' := .null) hd hret (narrow_ref ht _) (Or.inr (Or.inr ⟨rfl, ht, hv⟩)) hc hs h
theorem go_return (hd : Dc bytes pc .return_ 1 nx) (hret : ret = none) (hc : cells ≤ R.cells) (hs : slots ≤ R.slots) (h : Post none H) : Go C pc L [] H cells slots := by
  intro T locs X N RR
  obtain ⟨fs, hr, hrun, hended, hW, hsame⟩ := X.leave (v := none) (fun _ => rfl) C.nolock
  exact ⟨_, _, X.returnOut C.exec (C.rets.trans hret) (hb C.bys hd.1) hr, hrun, hended, _, locs, rfl, ⟨N, none, H, rfl, RR, h⟩, ⟨_, rfl⟩, hW, hsame.mono hc hs⟩
def fillL : List Value → List Slot
  | [] => []
  | v :: vs => if v.category = 2 then .val v :: .second :: fillL vs else .val v :: fillL vs
def locs0 (as : List Value) (nL : Nat) : List Slot := fillL as ++ List.replicate (nL - (fillL as).length) .unset
theorem fill_foldl (as : List Value) : ∀ acc : Array Slot, (as.map (upV b)).foldl (fun acc v => if v.category = 2 then (acc.push (.val v)).push .second else acc.push (.val v)) acc = acc ++ ((fillL as).map (upS b)).toArray := by
  induction as with
  | nil => intro acc; simp [fillL]
  | cons v vs ih =>
    intro acc
    simp only [List.map_cons, List.foldl_cons, cat_up, fillL]
    by_cases q : v.category = 2
    · rw [if_pos q, if_pos q, ih]
      simp [upS, ← Array.toList_inj]
    · rw [if_neg q, if_neg q, ih]
      simp [upS, ← Array.toList_inj]
theorem entry_up (m : MethodId) (as : List Value) (nL : Nat) : entryFrame m (as.map (upV b)).toArray nL = frm b m 0 (locs0 as nL) [] := by
  have e := fill_foldl (b := b) as #[]
  have e1 : argsToLocals (as.map (upV b)).toArray nL = ((locs0 as nL).map (upS b)).toArray := by
    simp only [argsToLocals, List.foldl_toArray', List.size_toArray, List.foldl_toArray]
    rw [e]
    simp [locs0, upS, ← Array.toList_inj]
  simp [entryFrame, e1]
end Walk
theorem Met.of_go {l : Launch} {Z : State} {a0 : Array Value} {W : List Jvm.Cond} {b : Nat} {y : MethodName} {bytes : ByteArray} {nL : Nat} {ret : Option FieldType} {rm : Room} {as : List Value} {H : List GCell} {Post : Option Value → List GCell → Prop} (hw : ∀ d ∈ W, d.before a0 Z = true) (hp : plainFor y = true) {L0 : List Slot} (hL : locs0 as nL = L0)
    (body : ∀ p e s m args below meth c (C : Cx p l e rm s m args below meth c Z a0 W b y bytes nL ret Post), Go C 0 L0 [] H 0 0) : Met l Z a0 b y bytes nL ret rm as H Post := by
  intro h RR ws
  refine MetFree.of_bodySF hp hisR ?_
  intro p e s m args below meth c s₁ Bd hml0 hP hK
  obtain ⟨rfl, hZ, hh⟩ := hP
  have C : Cx p l e rm s m (as.map (upV b)).toArray below meth c Z a0 W b y bytes nL ret Post := ⟨Bd.exec, hZ, findClass_of_methodNamed Bd.named, Bd.bytes, hml0, Bd.returns, Bd.notSynchronized, (name_of_methodNamed Bd.named Bd.method).1, hw⟩
  have X0 : Stand p l e rm s m (as.map (upV b)).toArray below meth c s₁ [] 0 0 := Stand.of_body Bd
  have e0 : s₁.heap = h := by rw [← hh, Bd.state]; rfl
  have g := body p e s m _ below meth c C s₁ [] X0 (Fr.nil b) (by rw [e0]; exact RR)
  obtain ⟨s₂, o, hs, hr⟩ := g
  refine ⟨s₂, o, ?_, hr⟩
  rw [entry_up, hL]
  exact hs
section Places
variable {p : Program} {l : Launch} {e : Env} {R : Room} {s : State} {m : MethodId} {args : Array Value} {below : List Frame} {meth : Method} {c : Code} {Z : State} {a0 : Array Value} {W : List Jvm.Cond} {b : Nat} {y : MethodName} {bytes : ByteArray} {nL : Nat} {ret : Option FieldType} {Post : Option Value → List GCell → Prop} {C : Cx p l e R s m args below meth c Z a0 W b y bytes nL ret Post} {pc nx tg : Nat} {L L' : List Slot} {S S' : List Value} {H H' : List GCell} {cells slots : Nat}
theorem go_astore_2 {s0 s1 o : Slot} {v : Value} (hd : Dc bytes pc (.astore_n 2) 1 nx) (ho : oneS o = true) (hv : v.isRef = true) (h : Go C nx (s0 :: s1 :: .val v :: L) S H cells slots) : Go C pc (s0 :: s1 :: o :: L) (v :: S) H cells slots := go_astoreN hd rfl ho hv h
theorem go_istore_3 {s0 s1 s2 o : Slot} {x : Int32} (hd : Dc bytes pc (.istore_n 3) 1 nx) (ho : oneS o = true) (h : Go C nx (s0 :: s1 :: s2 :: .val (.int x) :: L) S H cells slots) : Go C pc (s0 :: s1 :: s2 :: o :: L) (.int x :: S) H cells slots := go_istoreN hd rfl ho h
theorem go_iinc_3 {s0 s1 s2 : Slot} {x z : Int32} {i : Int} (hd : Dc bytes pc (.iinc 3 i) 3 nx) (hz : Int32.ofInt i = z) (h : Go C nx (s0 :: s1 :: s2 :: .val (.int (x + z)) :: L) S H cells slots) : Go C pc (s0 :: s1 :: s2 :: .val (.int x) :: L) S H cells slots := go_iinc hd rfl hz h
theorem go_istore_4 {s0 s1 s2 s3 o : Slot} {x : Int32} (hd : Dc bytes pc (.istore 4) 2 nx) (ho : oneS o = true) (h : Go C nx (s0 :: s1 :: s2 :: s3 :: .val (.int x) :: L) S H cells slots) : Go C pc (s0 :: s1 :: s2 :: s3 :: o :: L) (.int x :: S) H cells slots := go_istore hd rfl ho h
theorem go_iinc_4 {s0 s1 s2 s3 : Slot} {x z : Int32} {i : Int} (hd : Dc bytes pc (.iinc 4 i) 3 nx) (hz : Int32.ofInt i = z) (h : Go C nx (s0 :: s1 :: s2 :: s3 :: .val (.int (x + z)) :: L) S H cells slots) : Go C pc (s0 :: s1 :: s2 :: s3 :: .val (.int x) :: L) S H cells slots := go_iinc hd rfl hz h
theorem go_istore_5 {s0 s1 s2 s3 s4 o : Slot} {x : Int32} (hd : Dc bytes pc (.istore 5) 2 nx) (ho : oneS o = true) (h : Go C nx (s0 :: s1 :: s2 :: s3 :: s4 :: .val (.int x) :: L) S H cells slots) : Go C pc (s0 :: s1 :: s2 :: s3 :: s4 :: o :: L) (.int x :: S) H cells slots := go_istore hd rfl ho h
theorem go_iinc_5 {s0 s1 s2 s3 s4 : Slot} {x z : Int32} {i : Int} (hd : Dc bytes pc (.iinc 5 i) 3 nx) (hz : Int32.ofInt i = z) (h : Go C nx (s0 :: s1 :: s2 :: s3 :: s4 :: .val (.int (x + z)) :: L) S H cells slots) : Go C pc (s0 :: s1 :: s2 :: s3 :: s4 :: .val (.int x) :: L) S H cells slots := go_iinc hd rfl hz h
theorem go_istore_6 {s0 s1 s2 s3 s4 s5 o : Slot} {x : Int32} (hd : Dc bytes pc (.istore 6) 2 nx) (ho : oneS o = true) (h : Go C nx (s0 :: s1 :: s2 :: s3 :: s4 :: s5 :: .val (.int x) :: L) S H cells slots) : Go C pc (s0 :: s1 :: s2 :: s3 :: s4 :: s5 :: o :: L) (.int x :: S) H cells slots := go_istore hd rfl ho h
theorem go_lstore_6 {s0 s1 s2 s3 s4 s5 o o' : Slot} {x : Int64} (hd : Dc bytes pc (.lstore 6) 2 nx) (ho : oneS o = true ∨ ∃ z, o = .val (.long z)) (ho' : notL o' = true) (h : Go C nx (s0 :: s1 :: s2 :: s3 :: s4 :: s5 :: .val (.long x) :: .second :: L) S H cells slots) : Go C pc (s0 :: s1 :: s2 :: s3 :: s4 :: s5 :: o :: o' :: L) (.long x :: S) H cells slots := go_lstore hd rfl rfl ho ho' h
theorem go_istore_7 {s0 s1 s2 s3 s4 s5 s6 o : Slot} {x : Int32} (hd : Dc bytes pc (.istore 7) 2 nx) (ho : oneS o = true) (h : Go C nx (s0 :: s1 :: s2 :: s3 :: s4 :: s5 :: s6 :: .val (.int x) :: L) S H cells slots) : Go C pc (s0 :: s1 :: s2 :: s3 :: s4 :: s5 :: s6 :: o :: L) (.int x :: S) H cells slots := go_istore hd rfl ho h
theorem go_istore_8 {s0 s1 s2 s3 s4 s5 s6 s7 o : Slot} {x : Int32} (hd : Dc bytes pc (.istore 8) 2 nx) (ho : oneS o = true) (h : Go C nx (s0 :: s1 :: s2 :: s3 :: s4 :: s5 :: s6 :: s7 :: .val (.int x) :: L) S H cells slots) : Go C pc (s0 :: s1 :: s2 :: s3 :: s4 :: s5 :: s6 :: s7 :: o :: L) (.int x :: S) H cells slots := go_istore hd rfl ho h
theorem go_iinc_8 {s0 s1 s2 s3 s4 s5 s6 s7 : Slot} {x z : Int32} {i : Int} (hd : Dc bytes pc (.iinc 8 i) 3 nx) (hz : Int32.ofInt i = z) (h : Go C nx (s0 :: s1 :: s2 :: s3 :: s4 :: s5 :: s6 :: s7 :: .val (.int (x + z)) :: L) S H cells slots) : Go C pc (s0 :: s1 :: s2 :: s3 :: s4 :: s5 :: s6 :: s7 :: .val (.int x) :: L) S H cells slots := go_iinc hd rfl hz h
theorem go_istore_9 {s0 s1 s2 s3 s4 s5 s6 s7 s8 o : Slot} {x : Int32} (hd : Dc bytes pc (.istore 9) 2 nx) (ho : oneS o = true) (h : Go C nx (s0 :: s1 :: s2 :: s3 :: s4 :: s5 :: s6 :: s7 :: s8 :: .val (.int x) :: L) S H cells slots) : Go C pc (s0 :: s1 :: s2 :: s3 :: s4 :: s5 :: s6 :: s7 :: s8 :: o :: L) (.int x :: S) H cells slots := go_istore hd rfl ho h
theorem go_astore_10 {s0 s1 s2 s3 s4 s5 s6 s7 s8 s9 o : Slot} {v : Value} (hd : Dc bytes pc (.astore 10) 2 nx) (ho : oneS o = true) (hv : v.isRef = true) (h : Go C nx (s0 :: s1 :: s2 :: s3 :: s4 :: s5 :: s6 :: s7 :: s8 :: s9 :: .val v :: L) S H cells slots) : Go C pc (s0 :: s1 :: s2 :: s3 :: s4 :: s5 :: s6 :: s7 :: s8 :: s9 :: o :: L) (v :: S) H cells slots := go_astore hd rfl ho hv h
theorem go_astore_11 {s0 s1 s2 s3 s4 s5 s6 s7 s8 s9 s10 o : Slot} {v : Value} (hd : Dc bytes pc (.astore 11) 2 nx) (ho : oneS o = true) (hv : v.isRef = true) (h : Go C nx (s0 :: s1 :: s2 :: s3 :: s4 :: s5 :: s6 :: s7 :: s8 :: s9 :: s10 :: .val v :: L) S H cells slots) : Go C pc (s0 :: s1 :: s2 :: s3 :: s4 :: s5 :: s6 :: s7 :: s8 :: s9 :: s10 :: o :: L) (v :: S) H cells slots := go_astore hd rfl ho hv h
theorem go_istoreX_12 {s0 s1 s2 s3 s4 s5 s6 s7 s8 s9 s10 s11 o : Slot} {x : Int32} (hd : Dc bytes pc (.istore 12) 2 nx) (ho : oneS o = true) (h : ∀ x', x' = x → Go C nx (s0 :: s1 :: s2 :: s3 :: s4 :: s5 :: s6 :: s7 :: s8 :: s9 :: s10 :: s11 :: .val (.int x') :: L) S H cells slots) : Go C pc (s0 :: s1 :: s2 :: s3 :: s4 :: s5 :: s6 :: s7 :: s8 :: s9 :: s10 :: s11 :: o :: L) (.int x :: S) H cells slots := go_istore hd rfl ho (h x rfl)
theorem go_istore_13 {s0 s1 s2 s3 s4 s5 s6 s7 s8 s9 s10 s11 s12 o : Slot} {x : Int32} (hd : Dc bytes pc (.istore 13) 2 nx) (ho : oneS o = true) (h : Go C nx (s0 :: s1 :: s2 :: s3 :: s4 :: s5 :: s6 :: s7 :: s8 :: s9 :: s10 :: s11 :: s12 :: .val (.int x) :: L) S H cells slots) : Go C pc (s0 :: s1 :: s2 :: s3 :: s4 :: s5 :: s6 :: s7 :: s8 :: s9 :: s10 :: s11 :: s12 :: o :: L) (.int x :: S) H cells slots := go_istore hd rfl ho h
theorem go_istore_14 {s0 s1 s2 s3 s4 s5 s6 s7 s8 s9 s10 s11 s12 s13 o : Slot} {x : Int32} (hd : Dc bytes pc (.istore 14) 2 nx) (ho : oneS o = true) (h : Go C nx (s0 :: s1 :: s2 :: s3 :: s4 :: s5 :: s6 :: s7 :: s8 :: s9 :: s10 :: s11 :: s12 :: s13 :: .val (.int x) :: L) S H cells slots) : Go C pc (s0 :: s1 :: s2 :: s3 :: s4 :: s5 :: s6 :: s7 :: s8 :: s9 :: s10 :: s11 :: s12 :: s13 :: o :: L) (.int x :: S) H cells slots := go_istore hd rfl ho h
theorem go_istore_15 {s0 s1 s2 s3 s4 s5 s6 s7 s8 s9 s10 s11 s12 s13 s14 o : Slot} {x : Int32} (hd : Dc bytes pc (.istore 15) 2 nx) (ho : oneS o = true) (h : Go C nx (s0 :: s1 :: s2 :: s3 :: s4 :: s5 :: s6 :: s7 :: s8 :: s9 :: s10 :: s11 :: s12 :: s13 :: s14 :: .val (.int x) :: L) S H cells slots) : Go C pc (s0 :: s1 :: s2 :: s3 :: s4 :: s5 :: s6 :: s7 :: s8 :: s9 :: s10 :: s11 :: s12 :: s13 :: s14 :: o :: L) (.int x :: S) H cells slots := go_istore hd rfl ho h
theorem go_istore_16 {s0 s1 s2 s3 s4 s5 s6 s7 s8 s9 s10 s11 s12 s13 s14 s15 o : Slot} {x : Int32} (hd : Dc bytes pc (.istore 16) 2 nx) (ho : oneS o = true) (h : Go C nx (s0 :: s1 :: s2 :: s3 :: s4 :: s5 :: s6 :: s7 :: s8 :: s9 :: s10 :: s11 :: s12 :: s13 :: s14 :: s15 :: .val (.int x) :: L) S H cells slots) : Go C pc (s0 :: s1 :: s2 :: s3 :: s4 :: s5 :: s6 :: s7 :: s8 :: s9 :: s10 :: s11 :: s12 :: s13 :: s14 :: s15 :: o :: L) (.int x :: S) H cells slots := go_istore hd rfl ho h
theorem go_istore_17 {s0 s1 s2 s3 s4 s5 s6 s7 s8 s9 s10 s11 s12 s13 s14 s15 s16 o : Slot} {x : Int32} (hd : Dc bytes pc (.istore 17) 2 nx) (ho : oneS o = true) (h : Go C nx (s0 :: s1 :: s2 :: s3 :: s4 :: s5 :: s6 :: s7 :: s8 :: s9 :: s10 :: s11 :: s12 :: s13 :: s14 :: s15 :: s16 :: .val (.int x) :: L) S H cells slots) : Go C pc (s0 :: s1 :: s2 :: s3 :: s4 :: s5 :: s6 :: s7 :: s8 :: s9 :: s10 :: s11 :: s12 :: s13 :: s14 :: s15 :: s16 :: o :: L) (.int x :: S) H cells slots := go_istore hd rfl ho h
theorem go_virtual_0 {y' : MethodName} {bytes' : ByteArray} {maxL : Nat} {ret' : Option FieldType} {rm : Room} {i idx : Nat} {Cn : String} {fs : List (String × String × Value)} {P : Value → List GCell → Prop} {ps : List FieldType} {rt : Option FieldType} (hd : Dc bytes pc (.invokevirtual idx) 3 nx) (w1 : Jvm.Cond.methodLink y.cls idx y' ∈ W) (w2 : Jvm.Cond.declares y' ∈ W) (w3 : Jvm.Cond.selects Cn y' y' ∈ W) (w4 : Jvm.Cond.instanceMethod y' ∈ W) (w5 : Jvm.Cond.code y' bytes' maxL ret' ∈ W) (w6 : Jvm.Cond.initialized y'.cls ∈ W) (hy : y'.cls ≠ "java/lang/invoke/MethodHandle" ∧ y'.cls ≠ "java/lang/invoke/VarHandle") (hdesc : parseMethodDescriptor y'.desc = some ⟨ps, rt⟩) (hlen : ps.length = 0)
    (M : Met l Z a0 b y' bytes' maxL ret' rm (.ref i :: []) H (fun v H' => ∃ w, v = some w ∧ P w H')) (hH : H[i]? = some (ob Cn fs)) (hL : L.length = nL) (wdt : Nat) (hwd : (S.map Value.category).sum = wdt) (hfr : rm.frames + 1 ≤ R.frames) (hlo : wdt + (maxL + 11) + rm.locals ≤ R.locals) (hc : cells + rm.cells ≤ R.cells) (hs : slots + rm.slots ≤ R.slots)
    (h : ∀ w H', P w H' → Go C nx L (w :: S) H' (cells + rm.cells) (slots + rm.slots)) : Go C pc L (.ref i :: S) H cells slots :=
  go_virtual hd w1 w2 w3 w4 w5 w6 hy hdesc (as := []) (by rw [hlen]; rfl) M hH rfl hL wdt (Nat.le_of_eq hwd) hfr hlo hc hs (fun v H' q => by obtain ⟨w, rfl, q⟩ := q; exact h w H' q)
theorem go_virtual_1 {a1 : Value} {y' : MethodName} {bytes' : ByteArray} {maxL : Nat} {ret' : Option FieldType} {rm : Room} {i idx : Nat} {Cn : String} {fs : List (String × String × Value)} {P : Value → List GCell → Prop} {ps : List FieldType} {rt : Option FieldType} (hd : Dc bytes pc (.invokevirtual idx) 3 nx) (w1 : Jvm.Cond.methodLink y.cls idx y' ∈ W) (w2 : Jvm.Cond.declares y' ∈ W) (w3 : Jvm.Cond.selects Cn y' y' ∈ W) (w4 : Jvm.Cond.instanceMethod y' ∈ W) (w5 : Jvm.Cond.code y' bytes' maxL ret' ∈ W) (w6 : Jvm.Cond.initialized y'.cls ∈ W) (hy : y'.cls ≠ "java/lang/invoke/MethodHandle" ∧ y'.cls ≠ "java/lang/invoke/VarHandle") (hdesc : parseMethodDescriptor y'.desc = some ⟨ps, rt⟩) (hlen : ps.length = 1)
    (M : Met l Z a0 b y' bytes' maxL ret' rm (.ref i :: [a1]) H (fun v H' => ∃ w, v = some w ∧ P w H')) (hH : H[i]? = some (ob Cn fs)) (hL : L.length = nL) (wdt : Nat) (hwd : (S.map Value.category).sum = wdt) (hfr : rm.frames + 1 ≤ R.frames) (hlo : wdt + (maxL + 11) + rm.locals ≤ R.locals) (hc : cells + rm.cells ≤ R.cells) (hs : slots + rm.slots ≤ R.slots)
    (h : ∀ w H', P w H' → Go C nx L (w :: S) H' (cells + rm.cells) (slots + rm.slots)) : Go C pc L (a1 :: .ref i :: S) H cells slots :=
  go_virtual hd w1 w2 w3 w4 w5 w6 hy hdesc (as := [a1]) (by rw [hlen]; rfl) M hH rfl hL wdt (Nat.le_of_eq hwd) hfr hlo hc hs (fun v H' q => by obtain ⟨w, rfl, q⟩ := q; exact h w H' q)
theorem go_specialV_1 {a1 : Value} {y' : MethodName} {bytes' : ByteArray} {maxL : Nat} {rm : Room} {i idx : Nat} {P : List GCell → Prop} {ps : List FieldType} {rt : Option FieldType} (hn : y'.name = "<init>") (hd : Dc bytes pc (.invokespecial idx) 3 nx) (w1 : Jvm.Cond.methodLink y.cls idx y' ∈ W) (w4 : Jvm.Cond.instanceMethod y' ∈ W) (w5 : Jvm.Cond.code y' bytes' maxL none ∈ W) (w6 : Jvm.Cond.initialized y'.cls ∈ W) (hy : y'.cls ≠ "java/lang/invoke/MethodHandle" ∧ y'.cls ≠ "java/lang/invoke/VarHandle") (hdesc : parseMethodDescriptor y'.desc = some ⟨ps, rt⟩) (hlen : ps.length = 1)
    (M : Met l Z a0 b y' bytes' maxL none rm (.ref i :: [a1]) H (fun v H' => v = none ∧ P H')) (hL : L.length = nL) (wdt : Nat) (hwd : (S.map Value.category).sum = wdt) (hfr : rm.frames + 1 ≤ R.frames) (hlo : wdt + (maxL + 11) + rm.locals ≤ R.locals) (hc : cells + rm.cells ≤ R.cells) (hs : slots + rm.slots ≤ R.slots)
    (h : ∀ H', P H' → Go C nx L S H' (cells + rm.cells) (slots + rm.slots)) : Go C pc L (a1 :: .ref i :: S) H cells slots :=
  go_special hn hd w1 w4 w5 w6 hy hdesc (as := [a1]) (by rw [hlen]; rfl) M rfl hL wdt (Nat.le_of_eq hwd) hfr hlo hc hs (fun v H' q => by obtain ⟨rfl, q⟩ := q; exact h H' q)
theorem go_staticV_1 {a1 : Value} {y' : MethodName} {bytes' : ByteArray} {maxL : Nat} {ret' : Option FieldType} {rm : Room} {idx : Nat} {P : List GCell → Prop} {ps : List FieldType} {rt : Option FieldType} (hd : Dc bytes pc (.invokestatic idx) 3 nx) (w1 : Jvm.Cond.methodLink y.cls idx y' ∈ W) (w2 : Jvm.Cond.static y' ∈ W) (w5 : Jvm.Cond.code y' bytes' maxL ret' ∈ W) (w6 : Jvm.Cond.initialized y'.cls ∈ W) (hy : y'.cls ≠ "java/lang/invoke/MethodHandle" ∧ y'.cls ≠ "java/lang/invoke/VarHandle") (hdesc : parseMethodDescriptor y'.desc = some ⟨ps, rt⟩) (hlen : ps.length = 1)
    (M : Met l Z a0 b y' bytes' maxL ret' rm [a1] H (fun v H' => v = none ∧ P H')) (hL : L.length = nL) (wdt : Nat) (hwd : (S.map Value.category).sum = wdt) (hfr : rm.frames + 1 ≤ R.frames) (hlo : wdt + (maxL + 11) + rm.locals ≤ R.locals) (hc : cells + rm.cells ≤ R.cells) (hs : slots + rm.slots ≤ R.slots)
    (h : ∀ H', P H' → Go C nx L S H' (cells + rm.cells) (slots + rm.slots)) : Go C pc L (a1 :: S) H cells slots :=
  go_static hd w1 w2 w5 w6 hy hdesc (as := [a1]) (by rw [hlen]; rfl) M rfl hL wdt (Nat.le_of_eq hwd) hfr hlo hc hs (fun v H' q => by obtain ⟨rfl, q⟩ := q; exact h H' q)
theorem go_staticV_3 {a1 a2 a3 : Value} {y' : MethodName} {bytes' : ByteArray} {maxL : Nat} {ret' : Option FieldType} {rm : Room} {idx : Nat} {P : List GCell → Prop} {ps : List FieldType} {rt : Option FieldType} (hd : Dc bytes pc (.invokestatic idx) 3 nx) (w1 : Jvm.Cond.methodLink y.cls idx y' ∈ W) (w2 : Jvm.Cond.static y' ∈ W) (w5 : Jvm.Cond.code y' bytes' maxL ret' ∈ W) (w6 : Jvm.Cond.initialized y'.cls ∈ W) (hy : y'.cls ≠ "java/lang/invoke/MethodHandle" ∧ y'.cls ≠ "java/lang/invoke/VarHandle") (hdesc : parseMethodDescriptor y'.desc = some ⟨ps, rt⟩) (hlen : ps.length = 3)
    (M : Met l Z a0 b y' bytes' maxL ret' rm [a1, a2, a3] H (fun v H' => v = none ∧ P H')) (hL : L.length = nL) (wdt : Nat) (hwd : (S.map Value.category).sum = wdt) (hfr : rm.frames + 1 ≤ R.frames) (hlo : wdt + (maxL + 11) + rm.locals ≤ R.locals) (hc : cells + rm.cells ≤ R.cells) (hs : slots + rm.slots ≤ R.slots)
    (h : ∀ H', P H' → Go C nx L S H' (cells + rm.cells) (slots + rm.slots)) : Go C pc L (a3 :: a2 :: a1 :: S) H cells slots :=
  go_static hd w1 w2 w5 w6 hy hdesc (as := [a1, a2, a3]) (by rw [hlen]; rfl) M rfl hL wdt (Nat.le_of_eq hwd) hfr hlo hc hs (fun v H' q => by obtain ⟨rfl, q⟩ := q; exact h H' q)
theorem go_staticV_4 {a1 a2 a3 a4 : Value} {y' : MethodName} {bytes' : ByteArray} {maxL : Nat} {ret' : Option FieldType} {rm : Room} {idx : Nat} {P : List GCell → Prop} {ps : List FieldType} {rt : Option FieldType} (hd : Dc bytes pc (.invokestatic idx) 3 nx) (w1 : Jvm.Cond.methodLink y.cls idx y' ∈ W) (w2 : Jvm.Cond.static y' ∈ W) (w5 : Jvm.Cond.code y' bytes' maxL ret' ∈ W) (w6 : Jvm.Cond.initialized y'.cls ∈ W) (hy : y'.cls ≠ "java/lang/invoke/MethodHandle" ∧ y'.cls ≠ "java/lang/invoke/VarHandle") (hdesc : parseMethodDescriptor y'.desc = some ⟨ps, rt⟩) (hlen : ps.length = 4)
    (M : Met l Z a0 b y' bytes' maxL ret' rm [a1, a2, a3, a4] H (fun v H' => v = none ∧ P H')) (hL : L.length = nL) (wdt : Nat) (hwd : (S.map Value.category).sum = wdt) (hfr : rm.frames + 1 ≤ R.frames) (hlo : wdt + (maxL + 11) + rm.locals ≤ R.locals) (hc : cells + rm.cells ≤ R.cells) (hs : slots + rm.slots ≤ R.slots)
    (h : ∀ H', P H' → Go C nx L S H' (cells + rm.cells) (slots + rm.slots)) : Go C pc L (a4 :: a3 :: a2 :: a1 :: S) H cells slots :=
  go_static hd w1 w2 w5 w6 hy hdesc (as := [a1, a2, a3, a4]) (by rw [hlen]; rfl) M rfl hL wdt (Nat.le_of_eq hwd) hfr hlo hc hs (fun v H' q => by obtain ⟨rfl, q⟩ := q; exact h H' q)
theorem go_staticV_5 {a1 a2 a3 a4 a5 : Value} {y' : MethodName} {bytes' : ByteArray} {maxL : Nat} {ret' : Option FieldType} {rm : Room} {idx : Nat} {P : List GCell → Prop} {ps : List FieldType} {rt : Option FieldType} (hd : Dc bytes pc (.invokestatic idx) 3 nx) (w1 : Jvm.Cond.methodLink y.cls idx y' ∈ W) (w2 : Jvm.Cond.static y' ∈ W) (w5 : Jvm.Cond.code y' bytes' maxL ret' ∈ W) (w6 : Jvm.Cond.initialized y'.cls ∈ W) (hy : y'.cls ≠ "java/lang/invoke/MethodHandle" ∧ y'.cls ≠ "java/lang/invoke/VarHandle") (hdesc : parseMethodDescriptor y'.desc = some ⟨ps, rt⟩) (hlen : ps.length = 5)
    (M : Met l Z a0 b y' bytes' maxL ret' rm [a1, a2, a3, a4, a5] H (fun v H' => v = none ∧ P H')) (hL : L.length = nL) (wdt : Nat) (hwd : (S.map Value.category).sum = wdt) (hfr : rm.frames + 1 ≤ R.frames) (hlo : wdt + (maxL + 11) + rm.locals ≤ R.locals) (hc : cells + rm.cells ≤ R.cells) (hs : slots + rm.slots ≤ R.slots)
    (h : ∀ H', P H' → Go C nx L S H' (cells + rm.cells) (slots + rm.slots)) : Go C pc L (a5 :: a4 :: a3 :: a2 :: a1 :: S) H cells slots :=
  go_static hd w1 w2 w5 w6 hy hdesc (as := [a1, a2, a3, a4, a5]) (by rw [hlen]; rfl) M rfl hL wdt (Nat.le_of_eq hwd) hfr hlo hc hs (fun v H' q => by obtain ⟨rfl, q⟩ := q; exact h H' q)
theorem go_static_5 {a1 a2 a3 a4 a5 : Value} {y' : MethodName} {bytes' : ByteArray} {maxL : Nat} {ret' : Option FieldType} {rm : Room} {idx : Nat} {P : Value → List GCell → Prop} {ps : List FieldType} {rt : Option FieldType} (hd : Dc bytes pc (.invokestatic idx) 3 nx) (w1 : Jvm.Cond.methodLink y.cls idx y' ∈ W) (w2 : Jvm.Cond.static y' ∈ W) (w5 : Jvm.Cond.code y' bytes' maxL ret' ∈ W) (w6 : Jvm.Cond.initialized y'.cls ∈ W) (hy : y'.cls ≠ "java/lang/invoke/MethodHandle" ∧ y'.cls ≠ "java/lang/invoke/VarHandle") (hdesc : parseMethodDescriptor y'.desc = some ⟨ps, rt⟩) (hlen : ps.length = 5)
    (M : Met l Z a0 b y' bytes' maxL ret' rm [a1, a2, a3, a4, a5] H (fun v H' => ∃ w, v = some w ∧ P w H')) (hL : L.length = nL) (wdt : Nat) (hwd : (S.map Value.category).sum = wdt) (hfr : rm.frames + 1 ≤ R.frames) (hlo : wdt + (maxL + 11) + rm.locals ≤ R.locals) (hc : cells + rm.cells ≤ R.cells) (hs : slots + rm.slots ≤ R.slots)
    (h : ∀ w H', P w H' → Go C nx L (w :: S) H' (cells + rm.cells) (slots + rm.slots)) : Go C pc L (a5 :: a4 :: a3 :: a2 :: a1 :: S) H cells slots :=
  go_static hd w1 w2 w5 w6 hy hdesc (as := [a1, a2, a3, a4, a5]) (by rw [hlen]; rfl) M rfl hL wdt (Nat.le_of_eq hwd) hfr hlo hc hs (fun v H' q => by obtain ⟨w, rfl, q⟩ := q; exact h w H' q)
theorem go_static_10 {a1 a2 a3 a4 a5 a6 a7 a8 a9 a10 : Value} {y' : MethodName} {bytes' : ByteArray} {maxL : Nat} {ret' : Option FieldType} {rm : Room} {idx : Nat} {P : Value → List GCell → Prop} {ps : List FieldType} {rt : Option FieldType} (hd : Dc bytes pc (.invokestatic idx) 3 nx) (w1 : Jvm.Cond.methodLink y.cls idx y' ∈ W) (w2 : Jvm.Cond.static y' ∈ W) (w5 : Jvm.Cond.code y' bytes' maxL ret' ∈ W) (w6 : Jvm.Cond.initialized y'.cls ∈ W) (hy : y'.cls ≠ "java/lang/invoke/MethodHandle" ∧ y'.cls ≠ "java/lang/invoke/VarHandle") (hdesc : parseMethodDescriptor y'.desc = some ⟨ps, rt⟩) (hlen : ps.length = 10)
    (M : Met l Z a0 b y' bytes' maxL ret' rm [a1, a2, a3, a4, a5, a6, a7, a8, a9, a10] H (fun v H' => ∃ w, v = some w ∧ P w H')) (hL : L.length = nL) (wdt : Nat) (hwd : (S.map Value.category).sum = wdt) (hfr : rm.frames + 1 ≤ R.frames) (hlo : wdt + (maxL + 11) + rm.locals ≤ R.locals) (hc : cells + rm.cells ≤ R.cells) (hs : slots + rm.slots ≤ R.slots)
    (h : ∀ w H', P w H' → Go C nx L (w :: S) H' (cells + rm.cells) (slots + rm.slots)) : Go C pc L (a10 :: a9 :: a8 :: a7 :: a6 :: a5 :: a4 :: a3 :: a2 :: a1 :: S) H cells slots :=
  go_static hd w1 w2 w5 w6 hy hdesc (as := [a1, a2, a3, a4, a5, a6, a7, a8, a9, a10]) (by rw [hlen]; rfl) M rfl hL wdt (Nat.le_of_eq hwd) hfr hlo hc hs (fun v H' q => by obtain ⟨w, rfl, q⟩ := q; exact h w H' q)
end Places
end Jvm.GoKit

namespace Jvm.Pilot.@@N@@
open Jvm Jvm.ClassFile Sem Op Lib Jvm.Free Jvm.Stand Jvm.LawKit Jvm.RoadKit Bundle Jvm.GoKit Jvm.Pilot.@@N@@.Jvm.D
theorem e0_0 : Dc code 0 (.iload 4) 2 2 := ⟨at_0, rfl⟩
theorem e0_2 : Dc code 2 (.iconst 1) 1 3 := ⟨at_2, rfl⟩
theorem e0_3 : Dc code 3 (.iand) 1 4 := ⟨at_3, rfl⟩
theorem e0_4 : Dc code 4 (.ifCond .ne 7) 3 7 := ⟨at_4, rfl⟩
theorem e0_7 : Dc code 7 (.iconst 1) 1 8 := ⟨at_7, rfl⟩
theorem e0_8 : Dc code 8 (.goto 4) 3 11 := ⟨at_8, rfl⟩
theorem e0_11 : Dc code 11 (.iconst 0) 1 12 := ⟨at_11, rfl⟩
theorem e0_12 : Dc code 12 (.istore 5) 2 14 := ⟨at_12, rfl⟩
theorem e0_14 : Dc code 14 (.iload 5) 2 16 := ⟨at_14, rfl⟩
theorem e0_16 : Dc code 16 (.ifCond .eq 9) 3 19 := ⟨at_16, rfl⟩
theorem e0_19 : Dc code 19 (.iload_n 0) 1 20 := ⟨at_19, rfl⟩
theorem e0_20 : Dc code 20 (.iconst 4) 1 21 := ⟨at_20, rfl⟩
theorem e0_21 : Dc code 21 (.irem) 1 22 := ⟨at_21, rfl⟩
theorem e0_22 : Dc code 22 (.goto 4) 3 25 := ⟨at_22, rfl⟩
theorem e0_25 : Dc code 25 (.iload_n 0) 1 26 := ⟨at_25, rfl⟩
theorem e0_26 : Dc code 26 (.istore 6) 2 28 := ⟨at_26, rfl⟩
theorem e0_28 : Dc code 28 (.iload 5) 2 30 := ⟨at_28, rfl⟩
theorem e0_30 : Dc code 30 (.ifCond .eq 9) 3 33 := ⟨at_30, rfl⟩
theorem e0_33 : Dc code 33 (.iload_n 1) 1 34 := ⟨at_33, rfl⟩
theorem e0_34 : Dc code 34 (.iconst 4) 1 35 := ⟨at_34, rfl⟩
theorem e0_35 : Dc code 35 (.irem) 1 36 := ⟨at_35, rfl⟩
theorem e0_36 : Dc code 36 (.goto 4) 3 39 := ⟨at_36, rfl⟩
theorem e0_39 : Dc code 39 (.iload_n 1) 1 40 := ⟨at_39, rfl⟩
theorem e0_40 : Dc code 40 (.istore 7) 2 42 := ⟨at_40, rfl⟩
theorem e0_42 : Dc code 42 (.iload 5) 2 44 := ⟨at_42, rfl⟩
theorem e0_44 : Dc code 44 (.ifCond .eq 9) 3 47 := ⟨at_44, rfl⟩
theorem e0_47 : Dc code 47 (.iload_n 2) 1 48 := ⟨at_47, rfl⟩
theorem e0_48 : Dc code 48 (.iconst 4) 1 49 := ⟨at_48, rfl⟩
theorem e0_49 : Dc code 49 (.irem) 1 50 := ⟨at_49, rfl⟩
theorem e0_50 : Dc code 50 (.goto 4) 3 53 := ⟨at_50, rfl⟩
theorem e0_53 : Dc code 53 (.iload_n 2) 1 54 := ⟨at_53, rfl⟩
theorem e0_54 : Dc code 54 (.istore 8) 2 56 := ⟨at_54, rfl⟩
theorem e0_56 : Dc code 56 (.iload 5) 2 58 := ⟨at_56, rfl⟩
theorem e0_58 : Dc code 58 (.ifCond .eq 9) 3 61 := ⟨at_58, rfl⟩
theorem e0_61 : Dc code 61 (.iload_n 3) 1 62 := ⟨at_61, rfl⟩
theorem e0_62 : Dc code 62 (.iconst 4) 1 63 := ⟨at_62, rfl⟩
theorem e0_63 : Dc code 63 (.irem) 1 64 := ⟨at_63, rfl⟩
theorem e0_64 : Dc code 64 (.goto 4) 3 67 := ⟨at_64, rfl⟩
theorem e0_67 : Dc code 67 (.iload_n 3) 1 68 := ⟨at_67, rfl⟩
theorem e0_68 : Dc code 68 (.istore 9) 2 70 := ⟨at_68, rfl⟩
theorem e0_70 : Dc code 70 (.iconst 4) 1 71 := ⟨at_70, rfl⟩
theorem e0_71 : Dc code 71 (.newarray .int) 2 73 := ⟨at_71, rfl⟩
theorem e0_73 : Dc code 73 (.dup) 1 74 := ⟨at_73, rfl⟩
theorem e0_74 : Dc code 74 (.iconst 0) 1 75 := ⟨at_74, rfl⟩
theorem e0_75 : Dc code 75 (.iload 6) 2 77 := ⟨at_75, rfl⟩
theorem e0_77 : Dc code 77 (.iastore) 1 78 := ⟨at_77, rfl⟩
theorem e0_78 : Dc code 78 (.dup) 1 79 := ⟨at_78, rfl⟩
theorem e0_79 : Dc code 79 (.iconst 1) 1 80 := ⟨at_79, rfl⟩
theorem e0_80 : Dc code 80 (.iload 7) 2 82 := ⟨at_80, rfl⟩
theorem e0_82 : Dc code 82 (.iastore) 1 83 := ⟨at_82, rfl⟩
theorem e0_83 : Dc code 83 (.dup) 1 84 := ⟨at_83, rfl⟩
theorem e0_84 : Dc code 84 (.iconst 2) 1 85 := ⟨at_84, rfl⟩
theorem e0_85 : Dc code 85 (.iload 8) 2 87 := ⟨at_85, rfl⟩
theorem e0_87 : Dc code 87 (.iastore) 1 88 := ⟨at_87, rfl⟩
theorem e0_88 : Dc code 88 (.dup) 1 89 := ⟨at_88, rfl⟩
theorem e0_89 : Dc code 89 (.iconst 3) 1 90 := ⟨at_89, rfl⟩
theorem e0_90 : Dc code 90 (.iload 9) 2 92 := ⟨at_90, rfl⟩
theorem e0_92 : Dc code 92 (.iastore) 1 93 := ⟨at_92, rfl⟩
theorem e0_93 : Dc code 93 (.astore 10) 2 95 := ⟨at_93, rfl⟩
theorem e0_95 : Dc code 95 (.new 7) 3 98 := ⟨at_95, rfl⟩
theorem e0_98 : Dc code 98 (.dup) 1 99 := ⟨at_98, rfl⟩
theorem e0_99 : Dc code 99 (.aload 10) 2 101 := ⟨at_99, rfl⟩
theorem e0_101 : Dc code 101 (.invokespecial 9) 3 104 := ⟨at_101, rfl⟩
theorem e0_104 : Dc code 104 (.astore 11) 2 106 := ⟨at_104, rfl⟩
theorem e0_106 : Dc code 106 (.iload 6) 2 108 := ⟨at_106, rfl⟩
theorem e0_108 : Dc code 108 (.ifCond .le 7) 3 111 := ⟨at_108, rfl⟩
theorem e0_111 : Dc code 111 (.iconst 1) 1 112 := ⟨at_111, rfl⟩
theorem e0_112 : Dc code 112 (.goto 4) 3 115 := ⟨at_112, rfl⟩
theorem e0_115 : Dc code 115 (.iconst 0) 1 116 := ⟨at_115, rfl⟩
theorem e0_116 : Dc code 116 (.iload 7) 2 118 := ⟨at_116, rfl⟩
theorem e0_118 : Dc code 118 (.ifCond .le 14) 3 121 := ⟨at_118, rfl⟩
theorem e0_121 : Dc code 121 (.iload 7) 2 123 := ⟨at_121, rfl⟩
theorem e0_123 : Dc code 123 (.iload 6) 2 125 := ⟨at_123, rfl⟩
theorem e0_125 : Dc code 125 (.if_icmp .eq 7) 3 128 := ⟨at_125, rfl⟩
theorem e0_128 : Dc code 128 (.iconst 1) 1 129 := ⟨at_128, rfl⟩
theorem e0_129 : Dc code 129 (.goto 4) 3 132 := ⟨at_129, rfl⟩
theorem e0_132 : Dc code 132 (.iconst 0) 1 133 := ⟨at_132, rfl⟩
theorem e0_133 : Dc code 133 (.iadd) 1 134 := ⟨at_133, rfl⟩
theorem e0_134 : Dc code 134 (.iload 8) 2 136 := ⟨at_134, rfl⟩
theorem e0_136 : Dc code 136 (.ifCond .le 21) 3 139 := ⟨at_136, rfl⟩
theorem e0_139 : Dc code 139 (.iload 8) 2 141 := ⟨at_139, rfl⟩
theorem e0_141 : Dc code 141 (.iload 6) 2 143 := ⟨at_141, rfl⟩
theorem e0_143 : Dc code 143 (.if_icmp .eq 14) 3 146 := ⟨at_143, rfl⟩
theorem e0_146 : Dc code 146 (.iload 8) 2 148 := ⟨at_146, rfl⟩
theorem e0_148 : Dc code 148 (.iload 7) 2 150 := ⟨at_148, rfl⟩
theorem e0_150 : Dc code 150 (.if_icmp .eq 7) 3 153 := ⟨at_150, rfl⟩
theorem e0_153 : Dc code 153 (.iconst 1) 1 154 := ⟨at_153, rfl⟩
theorem e0_154 : Dc code 154 (.goto 4) 3 157 := ⟨at_154, rfl⟩
theorem e0_157 : Dc code 157 (.iconst 0) 1 158 := ⟨at_157, rfl⟩
theorem e0_158 : Dc code 158 (.iadd) 1 159 := ⟨at_158, rfl⟩
theorem e0_159 : Dc code 159 (.iload 9) 2 161 := ⟨at_159, rfl⟩
theorem e0_161 : Dc code 161 (.ifCond .le 28) 3 164 := ⟨at_161, rfl⟩
theorem e0_164 : Dc code 164 (.iload 9) 2 166 := ⟨at_164, rfl⟩
theorem e0_166 : Dc code 166 (.iload 6) 2 168 := ⟨at_166, rfl⟩
theorem e0_168 : Dc code 168 (.if_icmp .eq 21) 3 171 := ⟨at_168, rfl⟩
theorem e0_171 : Dc code 171 (.iload 9) 2 173 := ⟨at_171, rfl⟩
theorem e0_173 : Dc code 173 (.iload 7) 2 175 := ⟨at_173, rfl⟩
theorem e0_175 : Dc code 175 (.if_icmp .eq 14) 3 178 := ⟨at_175, rfl⟩
theorem e0_178 : Dc code 178 (.iload 9) 2 180 := ⟨at_178, rfl⟩
theorem e0_180 : Dc code 180 (.iload 8) 2 182 := ⟨at_180, rfl⟩
theorem e0_182 : Dc code 182 (.if_icmp .eq 7) 3 185 := ⟨at_182, rfl⟩
theorem e0_185 : Dc code 185 (.iconst 1) 1 186 := ⟨at_185, rfl⟩
theorem e0_186 : Dc code 186 (.goto 4) 3 189 := ⟨at_186, rfl⟩
theorem e0_189 : Dc code 189 (.iconst 0) 1 190 := ⟨at_189, rfl⟩
theorem e0_190 : Dc code 190 (.iadd) 1 191 := ⟨at_190, rfl⟩
theorem e0_191 : Dc code 191 (.istore 12) 2 193 := ⟨at_191, rfl⟩
theorem e0_193 : Dc code 193 (.aload 11) 2 195 := ⟨at_193, rfl⟩
theorem e0_195 : Dc code 195 (.invokevirtual 12) 3 198 := ⟨at_195, rfl⟩
theorem e0_198 : Dc code 198 (.istore 13) 2 200 := ⟨at_198, rfl⟩
theorem e0_200 : Dc code 200 (.iload 13) 2 202 := ⟨at_200, rfl⟩
theorem e0_202 : Dc code 202 (.iload 12) 2 204 := ⟨at_202, rfl⟩
theorem e0_204 : Dc code 204 (.if_icmp .eq 5) 3 207 := ⟨at_204, rfl⟩
theorem e0_209 : Dc code 209 (.iload 13) 2 211 := ⟨at_209, rfl⟩
theorem e0_211 : Dc code 211 (.ifCond .le 12) 3 214 := ⟨at_211, rfl⟩
theorem e0_214 : Dc code 214 (.aload 11) 2 216 := ⟨at_214, rfl⟩
theorem e0_216 : Dc code 216 (.iconst 0) 1 217 := ⟨at_216, rfl⟩
theorem e0_217 : Dc code 217 (.invokevirtual 16) 3 220 := ⟨at_217, rfl⟩
theorem e0_220 : Dc code 220 (.goto 4) 3 223 := ⟨at_220, rfl⟩
theorem e0_223 : Dc code 223 (.iconst 0) 1 224 := ⟨at_223, rfl⟩
theorem e0_224 : Dc code 224 (.istore 14) 2 226 := ⟨at_224, rfl⟩
theorem e0_226 : Dc code 226 (.iload 13) 2 228 := ⟨at_226, rfl⟩
theorem e0_228 : Dc code 228 (.iconst 1) 1 229 := ⟨at_228, rfl⟩
theorem e0_229 : Dc code 229 (.if_icmp .le 12) 3 232 := ⟨at_229, rfl⟩
theorem e0_232 : Dc code 232 (.aload 11) 2 234 := ⟨at_232, rfl⟩
theorem e0_234 : Dc code 234 (.iconst 1) 1 235 := ⟨at_234, rfl⟩
theorem e0_235 : Dc code 235 (.invokevirtual 16) 3 238 := ⟨at_235, rfl⟩
theorem e0_238 : Dc code 238 (.goto 4) 3 241 := ⟨at_238, rfl⟩
theorem e0_241 : Dc code 241 (.iconst 0) 1 242 := ⟨at_241, rfl⟩
theorem e0_242 : Dc code 242 (.istore 15) 2 244 := ⟨at_242, rfl⟩
theorem e0_244 : Dc code 244 (.iload 13) 2 246 := ⟨at_244, rfl⟩
theorem e0_246 : Dc code 246 (.iconst 2) 1 247 := ⟨at_246, rfl⟩
theorem e0_247 : Dc code 247 (.if_icmp .le 12) 3 250 := ⟨at_247, rfl⟩
theorem e0_250 : Dc code 250 (.aload 11) 2 252 := ⟨at_250, rfl⟩
theorem e0_252 : Dc code 252 (.iconst 2) 1 253 := ⟨at_252, rfl⟩
theorem e0_253 : Dc code 253 (.invokevirtual 16) 3 256 := ⟨at_253, rfl⟩
theorem e0_256 : Dc code 256 (.goto 4) 3 259 := ⟨at_256, rfl⟩
theorem e0_259 : Dc code 259 (.iconst 0) 1 260 := ⟨at_259, rfl⟩
theorem e0_260 : Dc code 260 (.istore 16) 2 262 := ⟨at_260, rfl⟩
theorem e0_262 : Dc code 262 (.iload 13) 2 264 := ⟨at_262, rfl⟩
theorem e0_264 : Dc code 264 (.iconst 3) 1 265 := ⟨at_264, rfl⟩
theorem e0_265 : Dc code 265 (.if_icmp .le 12) 3 268 := ⟨at_265, rfl⟩
theorem e0_268 : Dc code 268 (.aload 11) 2 270 := ⟨at_268, rfl⟩
theorem e0_270 : Dc code 270 (.iconst 3) 1 271 := ⟨at_270, rfl⟩
theorem e0_271 : Dc code 271 (.invokevirtual 16) 3 274 := ⟨at_271, rfl⟩
theorem e0_274 : Dc code 274 (.goto 4) 3 277 := ⟨at_274, rfl⟩
theorem e0_277 : Dc code 277 (.iconst 0) 1 278 := ⟨at_277, rfl⟩
theorem e0_278 : Dc code 278 (.istore 17) 2 280 := ⟨at_278, rfl⟩
theorem e0_280 : Dc code 280 (.aload 11) 2 282 := ⟨at_280, rfl⟩
theorem e0_282 : Dc code 282 (.iconst 0) 1 283 := ⟨at_282, rfl⟩
theorem e0_283 : Dc code 283 (.iload 13) 2 285 := ⟨at_283, rfl⟩
theorem e0_285 : Dc code 285 (.iload 14) 2 287 := ⟨at_285, rfl⟩
theorem e0_287 : Dc code 287 (.ldc 22) 2 289 := ⟨at_287, rfl⟩
theorem e0_289 : Dc code 289 (.iconst 0) 1 290 := ⟨at_289, rfl⟩
theorem e0_290 : Dc code 290 (.iload 6) 2 292 := ⟨at_290, rfl⟩
theorem e0_292 : Dc code 292 (.iload 7) 2 294 := ⟨at_292, rfl⟩
theorem e0_294 : Dc code 294 (.iload 8) 2 296 := ⟨at_294, rfl⟩
theorem e0_296 : Dc code 296 (.iload 9) 2 298 := ⟨at_296, rfl⟩
theorem e0_298 : Dc code 298 (.invokestatic 23) 3 301 := ⟨at_298, rfl⟩
theorem e0_301 : Dc code 301 (.ifCond .eq 79) 3 304 := ⟨at_301, rfl⟩
theorem e0_304 : Dc code 304 (.aload 11) 2 306 := ⟨at_304, rfl⟩
theorem e0_306 : Dc code 306 (.iconst 1) 1 307 := ⟨at_306, rfl⟩
theorem e0_307 : Dc code 307 (.iload 13) 2 309 := ⟨at_307, rfl⟩
theorem e0_309 : Dc code 309 (.iload 15) 2 311 := ⟨at_309, rfl⟩
theorem e0_311 : Dc code 311 (.iload 14) 2 313 := ⟨at_311, rfl⟩
theorem e0_313 : Dc code 313 (.iconst 1) 1 314 := ⟨at_313, rfl⟩
theorem e0_314 : Dc code 314 (.iload 6) 2 316 := ⟨at_314, rfl⟩
theorem e0_316 : Dc code 316 (.iload 7) 2 318 := ⟨at_316, rfl⟩
theorem e0_318 : Dc code 318 (.iload 8) 2 320 := ⟨at_318, rfl⟩
theorem e0_320 : Dc code 320 (.iload 9) 2 322 := ⟨at_320, rfl⟩
theorem e0_322 : Dc code 322 (.invokestatic 23) 3 325 := ⟨at_322, rfl⟩
theorem e0_325 : Dc code 325 (.ifCond .eq 55) 3 328 := ⟨at_325, rfl⟩
theorem e0_328 : Dc code 328 (.aload 11) 2 330 := ⟨at_328, rfl⟩
theorem e0_330 : Dc code 330 (.iconst 2) 1 331 := ⟨at_330, rfl⟩
theorem e0_331 : Dc code 331 (.iload 13) 2 333 := ⟨at_331, rfl⟩
theorem e0_333 : Dc code 333 (.iload 16) 2 335 := ⟨at_333, rfl⟩
theorem e0_335 : Dc code 335 (.iload 15) 2 337 := ⟨at_335, rfl⟩
theorem e0_337 : Dc code 337 (.iconst 1) 1 338 := ⟨at_337, rfl⟩
theorem e0_338 : Dc code 338 (.iload 6) 2 340 := ⟨at_338, rfl⟩
theorem e0_340 : Dc code 340 (.iload 7) 2 342 := ⟨at_340, rfl⟩
theorem e0_342 : Dc code 342 (.iload 8) 2 344 := ⟨at_342, rfl⟩
theorem e0_344 : Dc code 344 (.iload 9) 2 346 := ⟨at_344, rfl⟩
theorem e0_346 : Dc code 346 (.invokestatic 23) 3 349 := ⟨at_346, rfl⟩
theorem e0_349 : Dc code 349 (.ifCond .eq 31) 3 352 := ⟨at_349, rfl⟩
theorem e0_352 : Dc code 352 (.aload 11) 2 354 := ⟨at_352, rfl⟩
theorem e0_354 : Dc code 354 (.iconst 3) 1 355 := ⟨at_354, rfl⟩
theorem e0_355 : Dc code 355 (.iload 13) 2 357 := ⟨at_355, rfl⟩
theorem e0_357 : Dc code 357 (.iload 17) 2 359 := ⟨at_357, rfl⟩
theorem e0_359 : Dc code 359 (.iload 16) 2 361 := ⟨at_359, rfl⟩
theorem e0_361 : Dc code 361 (.iconst 1) 1 362 := ⟨at_361, rfl⟩
theorem e0_362 : Dc code 362 (.iload 6) 2 364 := ⟨at_362, rfl⟩
theorem e0_364 : Dc code 364 (.iload 7) 2 366 := ⟨at_364, rfl⟩
theorem e0_366 : Dc code 366 (.iload 8) 2 368 := ⟨at_366, rfl⟩
theorem e0_368 : Dc code 368 (.iload 9) 2 370 := ⟨at_368, rfl⟩
theorem e0_370 : Dc code 370 (.invokestatic 23) 3 373 := ⟨at_370, rfl⟩
theorem e0_373 : Dc code 373 (.ifCond .eq 7) 3 376 := ⟨at_373, rfl⟩
theorem e0_376 : Dc code 376 (.iconst 1) 1 377 := ⟨at_376, rfl⟩
theorem e0_377 : Dc code 377 (.goto 4) 3 380 := ⟨at_377, rfl⟩
theorem e0_381 : Dc code 381 (.ireturn) 1 382 := ⟨at_381, rfl⟩
theorem e1_0 : Dc prog_37_method_1_code 0 (.aload_n 0) 1 1 := ⟨by decide +kernel, rfl⟩
theorem e1_1 : Dc prog_37_method_1_code 1 (.invokespecial 1) 3 4 := ⟨by decide +kernel, rfl⟩
theorem e1_4 : Dc prog_37_method_1_code 4 (.aload_n 1) 1 5 := ⟨by decide +kernel, rfl⟩
theorem e1_5 : Dc prog_37_method_1_code 5 (.invokevirtual 7) 3 8 := ⟨by decide +kernel, rfl⟩
theorem e1_8 : Dc prog_37_method_1_code 8 (.checkcast 8) 3 11 := ⟨by decide +kernel, rfl⟩
theorem e1_11 : Dc prog_37_method_1_code 11 (.astore_n 2) 1 12 := ⟨by decide +kernel, rfl⟩
theorem e1_12 : Dc prog_37_method_1_code 12 (.aload_n 2) 1 13 := ⟨by decide +kernel, rfl⟩
theorem e1_13 : Dc prog_37_method_1_code 13 (.invokestatic 13) 3 16 := ⟨by decide +kernel, rfl⟩
theorem e1_16 : Dc prog_37_method_1_code 16 (.iconst 0) 1 17 := ⟨by decide +kernel, rfl⟩
theorem e1_17 : Dc prog_37_method_1_code 17 (.istore_n 3) 1 18 := ⟨by decide +kernel, rfl⟩
theorem e1_18 : Dc prog_37_method_1_code 18 (.iconst 0) 1 19 := ⟨by decide +kernel, rfl⟩
theorem e1_19 : Dc prog_37_method_1_code 19 (.istore 4) 2 21 := ⟨by decide +kernel, rfl⟩
theorem e1_21 : Dc prog_37_method_1_code 21 (.iload_n 3) 1 22 := ⟨by decide +kernel, rfl⟩
theorem e1_22 : Dc prog_37_method_1_code 22 (.aload_n 2) 1 23 := ⟨by decide +kernel, rfl⟩
theorem e1_23 : Dc prog_37_method_1_code 23 (.arraylength) 1 24 := ⟨by decide +kernel, rfl⟩
theorem e1_24 : Dc prog_37_method_1_code 24 (.if_icmp .ge 44) 3 27 := ⟨by decide +kernel, rfl⟩
theorem e1_27 : Dc prog_37_method_1_code 27 (.aload_n 2) 1 28 := ⟨by decide +kernel, rfl⟩
theorem e1_28 : Dc prog_37_method_1_code 28 (.aload_n 2) 1 29 := ⟨by decide +kernel, rfl⟩
theorem e1_29 : Dc prog_37_method_1_code 29 (.arraylength) 1 30 := ⟨by decide +kernel, rfl⟩
theorem e1_30 : Dc prog_37_method_1_code 30 (.iconst 1) 1 31 := ⟨by decide +kernel, rfl⟩
theorem e1_31 : Dc prog_37_method_1_code 31 (.isub) 1 32 := ⟨by decide +kernel, rfl⟩
theorem e1_32 : Dc prog_37_method_1_code 32 (.iload_n 3) 1 33 := ⟨by decide +kernel, rfl⟩
theorem e1_33 : Dc prog_37_method_1_code 33 (.isub) 1 34 := ⟨by decide +kernel, rfl⟩
theorem e1_34 : Dc prog_37_method_1_code 34 (.iaload) 1 35 := ⟨by decide +kernel, rfl⟩
theorem e1_35 : Dc prog_37_method_1_code 35 (.ifCond .le 33) 3 38 := ⟨by decide +kernel, rfl⟩
theorem e1_38 : Dc prog_37_method_1_code 38 (.iload_n 3) 1 39 := ⟨by decide +kernel, rfl⟩
theorem e1_39 : Dc prog_37_method_1_code 39 (.ifCond .eq 20) 3 42 := ⟨by decide +kernel, rfl⟩
theorem e1_42 : Dc prog_37_method_1_code 42 (.aload_n 2) 1 43 := ⟨by decide +kernel, rfl⟩
theorem e1_43 : Dc prog_37_method_1_code 43 (.aload_n 2) 1 44 := ⟨by decide +kernel, rfl⟩
theorem e1_44 : Dc prog_37_method_1_code 44 (.arraylength) 1 45 := ⟨by decide +kernel, rfl⟩
theorem e1_45 : Dc prog_37_method_1_code 45 (.iconst 1) 1 46 := ⟨by decide +kernel, rfl⟩
theorem e1_46 : Dc prog_37_method_1_code 46 (.isub) 1 47 := ⟨by decide +kernel, rfl⟩
theorem e1_47 : Dc prog_37_method_1_code 47 (.iload_n 3) 1 48 := ⟨by decide +kernel, rfl⟩
theorem e1_48 : Dc prog_37_method_1_code 48 (.isub) 1 49 := ⟨by decide +kernel, rfl⟩
theorem e1_49 : Dc prog_37_method_1_code 49 (.iaload) 1 50 := ⟨by decide +kernel, rfl⟩
theorem e1_50 : Dc prog_37_method_1_code 50 (.aload_n 2) 1 51 := ⟨by decide +kernel, rfl⟩
theorem e1_51 : Dc prog_37_method_1_code 51 (.aload_n 2) 1 52 := ⟨by decide +kernel, rfl⟩
theorem e1_52 : Dc prog_37_method_1_code 52 (.arraylength) 1 53 := ⟨by decide +kernel, rfl⟩
theorem e1_53 : Dc prog_37_method_1_code 53 (.iload_n 3) 1 54 := ⟨by decide +kernel, rfl⟩
theorem e1_54 : Dc prog_37_method_1_code 54 (.isub) 1 55 := ⟨by decide +kernel, rfl⟩
theorem e1_55 : Dc prog_37_method_1_code 55 (.iaload) 1 56 := ⟨by decide +kernel, rfl⟩
theorem e1_56 : Dc prog_37_method_1_code 56 (.if_icmp .eq 6) 3 59 := ⟨by decide +kernel, rfl⟩
theorem e1_59 : Dc prog_37_method_1_code 59 (.iinc 4 1) 3 62 := ⟨by decide +kernel, rfl⟩
theorem e1_62 : Dc prog_37_method_1_code 62 (.iinc 3 1) 3 65 := ⟨by decide +kernel, rfl⟩
theorem e1_65 : Dc prog_37_method_1_code 65 (.goto (-44)) 3 68 := ⟨by decide +kernel, rfl⟩
theorem e1_68 : Dc prog_37_method_1_code 68 (.aload_n 0) 1 69 := ⟨by decide +kernel, rfl⟩
theorem e1_69 : Dc prog_37_method_1_code 69 (.iload 4) 2 71 := ⟨by decide +kernel, rfl⟩
theorem e1_71 : Dc prog_37_method_1_code 71 (.newarray .int) 2 73 := ⟨by decide +kernel, rfl⟩
theorem e1_73 : Dc prog_37_method_1_code 73 (.putfield 19) 3 76 := ⟨by decide +kernel, rfl⟩
theorem e1_76 : Dc prog_37_method_1_code 76 (.aload_n 0) 1 77 := ⟨by decide +kernel, rfl⟩
theorem e1_77 : Dc prog_37_method_1_code 77 (.iload 4) 2 79 := ⟨by decide +kernel, rfl⟩
theorem e1_79 : Dc prog_37_method_1_code 79 (.iconst 1) 1 80 := ⟨by decide +kernel, rfl⟩
theorem e1_80 : Dc prog_37_method_1_code 80 (.iadd) 1 81 := ⟨by decide +kernel, rfl⟩
theorem e1_81 : Dc prog_37_method_1_code 81 (.newarray .int) 2 83 := ⟨by decide +kernel, rfl⟩
theorem e1_83 : Dc prog_37_method_1_code 83 (.putfield 24) 3 86 := ⟨by decide +kernel, rfl⟩
theorem e1_86 : Dc prog_37_method_1_code 86 (.aload_n 0) 1 87 := ⟨by decide +kernel, rfl⟩
theorem e1_87 : Dc prog_37_method_1_code 87 (.iload 4) 2 89 := ⟨by decide +kernel, rfl⟩
theorem e1_89 : Dc prog_37_method_1_code 89 (.iconst 1) 1 90 := ⟨by decide +kernel, rfl⟩
theorem e1_90 : Dc prog_37_method_1_code 90 (.iadd) 1 91 := ⟨by decide +kernel, rfl⟩
theorem e1_91 : Dc prog_37_method_1_code 91 (.newarray .long) 2 93 := ⟨by decide +kernel, rfl⟩
theorem e1_93 : Dc prog_37_method_1_code 93 (.putfield 27) 3 96 := ⟨by decide +kernel, rfl⟩
theorem e1_96 : Dc prog_37_method_1_code 96 (.iconst (-1)) 1 97 := ⟨by decide +kernel, rfl⟩
theorem e1_97 : Dc prog_37_method_1_code 97 (.istore 5) 2 99 := ⟨by decide +kernel, rfl⟩
theorem e1_99 : Dc prog_37_method_1_code 99 (.lconst 0) 1 100 := ⟨by decide +kernel, rfl⟩
theorem e1_100 : Dc prog_37_method_1_code 100 (.lstore 6) 2 102 := ⟨by decide +kernel, rfl⟩
theorem e1_102 : Dc prog_37_method_1_code 102 (.iconst 0) 1 103 := ⟨by decide +kernel, rfl⟩
theorem e1_103 : Dc prog_37_method_1_code 103 (.istore 8) 2 105 := ⟨by decide +kernel, rfl⟩
theorem e1_105 : Dc prog_37_method_1_code 105 (.iload 8) 2 107 := ⟨by decide +kernel, rfl⟩
theorem e1_107 : Dc prog_37_method_1_code 107 (.iload_n 3) 1 108 := ⟨by decide +kernel, rfl⟩
theorem e1_108 : Dc prog_37_method_1_code 108 (.if_icmp .ge 75) 3 111 := ⟨by decide +kernel, rfl⟩
theorem e1_111 : Dc prog_37_method_1_code 111 (.aload_n 2) 1 112 := ⟨by decide +kernel, rfl⟩
theorem e1_112 : Dc prog_37_method_1_code 112 (.aload_n 2) 1 113 := ⟨by decide +kernel, rfl⟩
theorem e1_113 : Dc prog_37_method_1_code 113 (.arraylength) 1 114 := ⟨by decide +kernel, rfl⟩
theorem e1_114 : Dc prog_37_method_1_code 114 (.iconst 1) 1 115 := ⟨by decide +kernel, rfl⟩
theorem e1_115 : Dc prog_37_method_1_code 115 (.isub) 1 116 := ⟨by decide +kernel, rfl⟩
theorem e1_116 : Dc prog_37_method_1_code 116 (.iload 8) 2 118 := ⟨by decide +kernel, rfl⟩
theorem e1_118 : Dc prog_37_method_1_code 118 (.isub) 1 119 := ⟨by decide +kernel, rfl⟩
theorem e1_119 : Dc prog_37_method_1_code 119 (.iaload) 1 120 := ⟨by decide +kernel, rfl⟩
theorem e1_120 : Dc prog_37_method_1_code 120 (.istore 9) 2 122 := ⟨by decide +kernel, rfl⟩
theorem e1_122 : Dc prog_37_method_1_code 122 (.iload 5) 2 124 := ⟨by decide +kernel, rfl⟩
theorem e1_124 : Dc prog_37_method_1_code 124 (.ifCond .lt 15) 3 127 := ⟨by decide +kernel, rfl⟩
theorem e1_127 : Dc prog_37_method_1_code 127 (.iload 9) 2 129 := ⟨by decide +kernel, rfl⟩
theorem e1_129 : Dc prog_37_method_1_code 129 (.aload_n 0) 1 130 := ⟨by decide +kernel, rfl⟩
theorem e1_130 : Dc prog_37_method_1_code 130 (.getfield 19) 3 133 := ⟨by decide +kernel, rfl⟩
theorem e1_133 : Dc prog_37_method_1_code 133 (.iload 5) 2 135 := ⟨by decide +kernel, rfl⟩
theorem e1_135 : Dc prog_37_method_1_code 135 (.iaload) 1 136 := ⟨by decide +kernel, rfl⟩
theorem e1_136 : Dc prog_37_method_1_code 136 (.if_icmp .eq 33) 3 139 := ⟨by decide +kernel, rfl⟩
theorem e1_139 : Dc prog_37_method_1_code 139 (.iinc 5 1) 3 142 := ⟨by decide +kernel, rfl⟩
theorem e1_142 : Dc prog_37_method_1_code 142 (.aload_n 0) 1 143 := ⟨by decide +kernel, rfl⟩
theorem e1_143 : Dc prog_37_method_1_code 143 (.getfield 19) 3 146 := ⟨by decide +kernel, rfl⟩
theorem e1_146 : Dc prog_37_method_1_code 146 (.iload 5) 2 148 := ⟨by decide +kernel, rfl⟩
theorem e1_148 : Dc prog_37_method_1_code 148 (.iload 9) 2 150 := ⟨by decide +kernel, rfl⟩
theorem e1_150 : Dc prog_37_method_1_code 150 (.iastore) 1 151 := ⟨by decide +kernel, rfl⟩
theorem e1_151 : Dc prog_37_method_1_code 151 (.aload_n 0) 1 152 := ⟨by decide +kernel, rfl⟩
theorem e1_152 : Dc prog_37_method_1_code 152 (.getfield 24) 3 155 := ⟨by decide +kernel, rfl⟩
theorem e1_155 : Dc prog_37_method_1_code 155 (.iload 5) 2 157 := ⟨by decide +kernel, rfl⟩
theorem e1_157 : Dc prog_37_method_1_code 157 (.iload 8) 2 159 := ⟨by decide +kernel, rfl⟩
theorem e1_159 : Dc prog_37_method_1_code 159 (.iastore) 1 160 := ⟨by decide +kernel, rfl⟩
theorem e1_160 : Dc prog_37_method_1_code 160 (.aload_n 0) 1 161 := ⟨by decide +kernel, rfl⟩
theorem e1_161 : Dc prog_37_method_1_code 161 (.getfield 27) 3 164 := ⟨by decide +kernel, rfl⟩
theorem e1_164 : Dc prog_37_method_1_code 164 (.iload 5) 2 166 := ⟨by decide +kernel, rfl⟩
theorem e1_166 : Dc prog_37_method_1_code 166 (.lload 6) 2 168 := ⟨by decide +kernel, rfl⟩
theorem e1_168 : Dc prog_37_method_1_code 168 (.lastore) 1 169 := ⟨by decide +kernel, rfl⟩
theorem e1_169 : Dc prog_37_method_1_code 169 (.lload 6) 2 171 := ⟨by decide +kernel, rfl⟩
theorem e1_171 : Dc prog_37_method_1_code 171 (.iload 9) 2 173 := ⟨by decide +kernel, rfl⟩
theorem e1_173 : Dc prog_37_method_1_code 173 (.i2l) 1 174 := ⟨by decide +kernel, rfl⟩
theorem e1_174 : Dc prog_37_method_1_code 174 (.ladd) 1 175 := ⟨by decide +kernel, rfl⟩
theorem e1_175 : Dc prog_37_method_1_code 175 (.lstore 6) 2 177 := ⟨by decide +kernel, rfl⟩
theorem e1_177 : Dc prog_37_method_1_code 177 (.iinc 8 1) 3 180 := ⟨by decide +kernel, rfl⟩
theorem e1_180 : Dc prog_37_method_1_code 180 (.goto (-75)) 3 183 := ⟨by decide +kernel, rfl⟩
theorem e1_183 : Dc prog_37_method_1_code 183 (.aload_n 0) 1 184 := ⟨by decide +kernel, rfl⟩
theorem e1_184 : Dc prog_37_method_1_code 184 (.getfield 24) 3 187 := ⟨by decide +kernel, rfl⟩
theorem e1_187 : Dc prog_37_method_1_code 187 (.iload 4) 2 189 := ⟨by decide +kernel, rfl⟩
theorem e1_189 : Dc prog_37_method_1_code 189 (.iload_n 3) 1 190 := ⟨by decide +kernel, rfl⟩
theorem e1_190 : Dc prog_37_method_1_code 190 (.iastore) 1 191 := ⟨by decide +kernel, rfl⟩
theorem e1_191 : Dc prog_37_method_1_code 191 (.aload_n 0) 1 192 := ⟨by decide +kernel, rfl⟩
theorem e1_192 : Dc prog_37_method_1_code 192 (.getfield 27) 3 195 := ⟨by decide +kernel, rfl⟩
theorem e1_195 : Dc prog_37_method_1_code 195 (.iload 4) 2 197 := ⟨by decide +kernel, rfl⟩
theorem e1_197 : Dc prog_37_method_1_code 197 (.lload 6) 2 199 := ⟨by decide +kernel, rfl⟩
theorem e1_199 : Dc prog_37_method_1_code 199 (.lastore) 1 200 := ⟨by decide +kernel, rfl⟩
theorem e1_200 : Dc prog_37_method_1_code 200 (.return_) 1 201 := ⟨by decide +kernel, rfl⟩
theorem e3_0 : Dc jdk_65_method_2_code 0 (.aload_n 0) 1 1 := ⟨by decide +kernel, rfl⟩
theorem e3_1 : Dc jdk_65_method_2_code 1 (.iconst 0) 1 2 := ⟨by decide +kernel, rfl⟩
theorem e3_2 : Dc jdk_65_method_2_code 2 (.iconst 0) 1 3 := ⟨by decide +kernel, rfl⟩
theorem e3_3 : Dc jdk_65_method_2_code 3 (.aload_n 0) 1 4 := ⟨by decide +kernel, rfl⟩
theorem e3_4 : Dc jdk_65_method_2_code 4 (.arraylength) 1 5 := ⟨by decide +kernel, rfl⟩
theorem e3_5 : Dc jdk_65_method_2_code 5 (.invokestatic 7) 3 8 := ⟨by decide +kernel, rfl⟩
theorem e3_8 : Dc jdk_65_method_2_code 8 (.return_) 1 9 := ⟨by decide +kernel, rfl⟩
theorem e4_0 : Dc jdk_2529_method_3_code 0 (.iload_n 3) 1 1 := ⟨by decide +kernel, rfl⟩
theorem e4_1 : Dc jdk_2529_method_3_code 1 (.iload_n 2) 1 2 := ⟨by decide +kernel, rfl⟩
theorem e4_2 : Dc jdk_2529_method_3_code 2 (.isub) 1 3 := ⟨by decide +kernel, rfl⟩
theorem e4_3 : Dc jdk_2529_method_3_code 3 (.istore 4) 2 5 := ⟨by decide +kernel, rfl⟩
theorem e4_5 : Dc jdk_2529_method_3_code 5 (.iload_n 1) 1 6 := ⟨by decide +kernel, rfl⟩
theorem e4_6 : Dc jdk_2529_method_3_code 6 (.iconst 1) 1 7 := ⟨by decide +kernel, rfl⟩
theorem e4_7 : Dc jdk_2529_method_3_code 7 (.if_icmp .le 61) 3 10 := ⟨by decide +kernel, rfl⟩
theorem e4_68 : Dc jdk_2529_method_3_code 68 (.aconst_null) 1 69 := ⟨by decide +kernel, rfl⟩
theorem e4_69 : Dc jdk_2529_method_3_code 69 (.aload_n 0) 1 70 := ⟨by decide +kernel, rfl⟩
theorem e4_70 : Dc jdk_2529_method_3_code 70 (.iconst 0) 1 71 := ⟨by decide +kernel, rfl⟩
theorem e4_71 : Dc jdk_2529_method_3_code 71 (.iload_n 2) 1 72 := ⟨by decide +kernel, rfl⟩
theorem e4_72 : Dc jdk_2529_method_3_code 72 (.iload_n 3) 1 73 := ⟨by decide +kernel, rfl⟩
theorem e4_73 : Dc jdk_2529_method_3_code 73 (.invokestatic 26) 3 76 := ⟨by decide +kernel, rfl⟩
theorem e4_76 : Dc jdk_2529_method_3_code 76 (.return_) 1 77 := ⟨by decide +kernel, rfl⟩
theorem e5_0 : Dc jdk_2529_method_4_code 0 (.iload 4) 2 2 := ⟨by decide +kernel, rfl⟩
theorem e5_2 : Dc jdk_2529_method_4_code 2 (.iconst 1) 1 3 := ⟨by decide +kernel, rfl⟩
theorem e5_3 : Dc jdk_2529_method_4_code 3 (.isub) 1 4 := ⟨by decide +kernel, rfl⟩
theorem e5_4 : Dc jdk_2529_method_4_code 4 (.istore 5) 2 6 := ⟨by decide +kernel, rfl⟩
theorem e5_6 : Dc jdk_2529_method_4_code 6 (.iload 4) 2 8 := ⟨by decide +kernel, rfl⟩
theorem e5_8 : Dc jdk_2529_method_4_code 8 (.iload_n 3) 1 9 := ⟨by decide +kernel, rfl⟩
theorem e5_9 : Dc jdk_2529_method_4_code 9 (.isub) 1 10 := ⟨by decide +kernel, rfl⟩
theorem e5_10 : Dc jdk_2529_method_4_code 10 (.istore 6) 2 12 := ⟨by decide +kernel, rfl⟩
theorem e5_12 : Dc jdk_2529_method_4_code 12 (.iload 6) 2 14 := ⟨by decide +kernel, rfl⟩
theorem e5_14 : Dc jdk_2529_method_4_code 14 (.bipush 65) 2 16 := ⟨by decide +kernel, rfl⟩
theorem e5_16 : Dc jdk_2529_method_4_code 16 (.iload_n 2) 1 17 := ⟨by decide +kernel, rfl⟩
theorem e5_17 : Dc jdk_2529_method_4_code 17 (.iadd) 1 18 := ⟨by decide +kernel, rfl⟩
theorem e5_18 : Dc jdk_2529_method_4_code 18 (.if_icmp .ge 28) 3 21 := ⟨by decide +kernel, rfl⟩
theorem e5_21 : Dc jdk_2529_method_4_code 21 (.iload_n 2) 1 22 := ⟨by decide +kernel, rfl⟩
theorem e5_22 : Dc jdk_2529_method_4_code 22 (.iconst 1) 1 23 := ⟨by decide +kernel, rfl⟩
theorem e5_23 : Dc jdk_2529_method_4_code 23 (.iand) 1 24 := ⟨by decide +kernel, rfl⟩
theorem e5_24 : Dc jdk_2529_method_4_code 24 (.ifCond .le 22) 3 27 := ⟨by decide +kernel, rfl⟩
theorem e5_46 : Dc jdk_2529_method_4_code 46 (.iload 6) 2 48 := ⟨by decide +kernel, rfl⟩
theorem e5_48 : Dc jdk_2529_method_4_code 48 (.bipush 44) 2 50 := ⟨by decide +kernel, rfl⟩
theorem e5_50 : Dc jdk_2529_method_4_code 50 (.if_icmp .ge 11) 3 53 := ⟨by decide +kernel, rfl⟩
theorem e5_53 : Dc jdk_2529_method_4_code 53 (.aload_n 1) 1 54 := ⟨by decide +kernel, rfl⟩
theorem e5_54 : Dc jdk_2529_method_4_code 54 (.iload_n 3) 1 55 := ⟨by decide +kernel, rfl⟩
theorem e5_55 : Dc jdk_2529_method_4_code 55 (.iload 4) 2 57 := ⟨by decide +kernel, rfl⟩
theorem e5_57 : Dc jdk_2529_method_4_code 57 (.invokestatic 34) 3 60 := ⟨by decide +kernel, rfl⟩
theorem e5_60 : Dc jdk_2529_method_4_code 60 (.return_) 1 61 := ⟨by decide +kernel, rfl⟩
theorem e6_0 : Dc jdk_2529_method_6_code 0 (.iload_n 1) 1 1 := ⟨by decide +kernel, rfl⟩
theorem e6_1 : Dc jdk_2529_method_6_code 1 (.istore 4) 2 3 := ⟨by decide +kernel, rfl⟩
theorem e6_3 : Dc jdk_2529_method_6_code 3 (.iinc 4 1) 3 6 := ⟨by decide +kernel, rfl⟩
theorem e6_6 : Dc jdk_2529_method_6_code 6 (.iload 4) 2 8 := ⟨by decide +kernel, rfl⟩
theorem e6_8 : Dc jdk_2529_method_6_code 8 (.iload_n 2) 1 9 := ⟨by decide +kernel, rfl⟩
theorem e6_9 : Dc jdk_2529_method_6_code 9 (.if_icmp .ge 58) 3 12 := ⟨by decide +kernel, rfl⟩
theorem e6_12 : Dc jdk_2529_method_6_code 12 (.aload_n 0) 1 13 := ⟨by decide +kernel, rfl⟩
theorem e6_13 : Dc jdk_2529_method_6_code 13 (.iload 4) 2 15 := ⟨by decide +kernel, rfl⟩
theorem e6_15 : Dc jdk_2529_method_6_code 15 (.dup) 1 16 := ⟨by decide +kernel, rfl⟩
theorem e6_16 : Dc jdk_2529_method_6_code 16 (.istore_n 3) 1 17 := ⟨by decide +kernel, rfl⟩
theorem e6_17 : Dc jdk_2529_method_6_code 17 (.iaload) 1 18 := ⟨by decide +kernel, rfl⟩
theorem e6_18 : Dc jdk_2529_method_6_code 18 (.istore 5) 2 20 := ⟨by decide +kernel, rfl⟩
theorem e6_20 : Dc jdk_2529_method_6_code 20 (.iload 5) 2 22 := ⟨by decide +kernel, rfl⟩
theorem e6_22 : Dc jdk_2529_method_6_code 22 (.aload_n 0) 1 23 := ⟨by decide +kernel, rfl⟩
theorem e6_23 : Dc jdk_2529_method_6_code 23 (.iload_n 3) 1 24 := ⟨by decide +kernel, rfl⟩
theorem e6_24 : Dc jdk_2529_method_6_code 24 (.iconst 1) 1 25 := ⟨by decide +kernel, rfl⟩
theorem e6_25 : Dc jdk_2529_method_6_code 25 (.isub) 1 26 := ⟨by decide +kernel, rfl⟩
theorem e6_26 : Dc jdk_2529_method_6_code 26 (.iaload) 1 27 := ⟨by decide +kernel, rfl⟩
theorem e6_27 : Dc jdk_2529_method_6_code 27 (.if_icmp .ge 37) 3 30 := ⟨by decide +kernel, rfl⟩
theorem e6_30 : Dc jdk_2529_method_6_code 30 (.iinc 3 (-1)) 3 33 := ⟨by decide +kernel, rfl⟩
theorem e6_33 : Dc jdk_2529_method_6_code 33 (.iload_n 3) 1 34 := ⟨by decide +kernel, rfl⟩
theorem e6_34 : Dc jdk_2529_method_6_code 34 (.iload_n 1) 1 35 := ⟨by decide +kernel, rfl⟩
theorem e6_35 : Dc jdk_2529_method_6_code 35 (.if_icmp .lt 22) 3 38 := ⟨by decide +kernel, rfl⟩
theorem e6_38 : Dc jdk_2529_method_6_code 38 (.iload 5) 2 40 := ⟨by decide +kernel, rfl⟩
theorem e6_40 : Dc jdk_2529_method_6_code 40 (.aload_n 0) 1 41 := ⟨by decide +kernel, rfl⟩
theorem e6_41 : Dc jdk_2529_method_6_code 41 (.iload_n 3) 1 42 := ⟨by decide +kernel, rfl⟩
theorem e6_42 : Dc jdk_2529_method_6_code 42 (.iaload) 1 43 := ⟨by decide +kernel, rfl⟩
theorem e6_43 : Dc jdk_2529_method_6_code 43 (.if_icmp .ge 14) 3 46 := ⟨by decide +kernel, rfl⟩
theorem e6_46 : Dc jdk_2529_method_6_code 46 (.aload_n 0) 1 47 := ⟨by decide +kernel, rfl⟩
theorem e6_47 : Dc jdk_2529_method_6_code 47 (.iload_n 3) 1 48 := ⟨by decide +kernel, rfl⟩
theorem e6_48 : Dc jdk_2529_method_6_code 48 (.iconst 1) 1 49 := ⟨by decide +kernel, rfl⟩
theorem e6_49 : Dc jdk_2529_method_6_code 49 (.iadd) 1 50 := ⟨by decide +kernel, rfl⟩
theorem e6_50 : Dc jdk_2529_method_6_code 50 (.aload_n 0) 1 51 := ⟨by decide +kernel, rfl⟩
theorem e6_51 : Dc jdk_2529_method_6_code 51 (.iload_n 3) 1 52 := ⟨by decide +kernel, rfl⟩
theorem e6_52 : Dc jdk_2529_method_6_code 52 (.iaload) 1 53 := ⟨by decide +kernel, rfl⟩
theorem e6_53 : Dc jdk_2529_method_6_code 53 (.iastore) 1 54 := ⟨by decide +kernel, rfl⟩
theorem e6_54 : Dc jdk_2529_method_6_code 54 (.goto (-24)) 3 57 := ⟨by decide +kernel, rfl⟩
theorem e6_57 : Dc jdk_2529_method_6_code 57 (.aload_n 0) 1 58 := ⟨by decide +kernel, rfl⟩
theorem e6_58 : Dc jdk_2529_method_6_code 58 (.iload_n 3) 1 59 := ⟨by decide +kernel, rfl⟩
theorem e6_59 : Dc jdk_2529_method_6_code 59 (.iconst 1) 1 60 := ⟨by decide +kernel, rfl⟩
theorem e6_60 : Dc jdk_2529_method_6_code 60 (.iadd) 1 61 := ⟨by decide +kernel, rfl⟩
theorem e6_61 : Dc jdk_2529_method_6_code 61 (.iload 5) 2 63 := ⟨by decide +kernel, rfl⟩
theorem e6_63 : Dc jdk_2529_method_6_code 63 (.iastore) 1 64 := ⟨by decide +kernel, rfl⟩
theorem e6_64 : Dc jdk_2529_method_6_code 64 (.goto (-61)) 3 67 := ⟨by decide +kernel, rfl⟩
theorem e6_67 : Dc jdk_2529_method_6_code 67 (.return_) 1 68 := ⟨by decide +kernel, rfl⟩
theorem e7_0 : Dc prog_37_method_5_code 0 (.aload_n 0) 1 1 := ⟨by decide +kernel, rfl⟩
theorem e7_1 : Dc prog_37_method_5_code 1 (.getfield 19) 3 4 := ⟨by decide +kernel, rfl⟩
theorem e7_4 : Dc prog_37_method_5_code 4 (.arraylength) 1 5 := ⟨by decide +kernel, rfl⟩
theorem e7_5 : Dc prog_37_method_5_code 5 (.ireturn) 1 6 := ⟨by decide +kernel, rfl⟩
theorem e8_0 : Dc prog_37_method_6_code 0 (.aload_n 0) 1 1 := ⟨by decide +kernel, rfl⟩
theorem e8_1 : Dc prog_37_method_6_code 1 (.getfield 19) 3 4 := ⟨by decide +kernel, rfl⟩
theorem e8_4 : Dc prog_37_method_6_code 4 (.iload_n 1) 1 5 := ⟨by decide +kernel, rfl⟩
theorem e8_5 : Dc prog_37_method_6_code 5 (.iaload) 1 6 := ⟨by decide +kernel, rfl⟩
theorem e8_6 : Dc prog_37_method_6_code 6 (.ireturn) 1 7 := ⟨by decide +kernel, rfl⟩
theorem e9_0 : Dc method_3_code 0 (.iload_n 1) 1 1 := ⟨by decide +kernel, rfl⟩
theorem e9_1 : Dc method_3_code 1 (.iload_n 2) 1 2 := ⟨by decide +kernel, rfl⟩
theorem e9_2 : Dc method_3_code 2 (.if_icmp .lt 5) 3 5 := ⟨by decide +kernel, rfl⟩
theorem e9_5 : Dc method_3_code 5 (.iconst 1) 1 6 := ⟨by decide +kernel, rfl⟩
theorem e9_6 : Dc method_3_code 6 (.ireturn) 1 7 := ⟨by decide +kernel, rfl⟩
theorem e9_7 : Dc method_3_code 7 (.iload_n 3) 1 8 := ⟨by decide +kernel, rfl⟩
theorem e9_8 : Dc method_3_code 8 (.ifCond .gt 5) 3 11 := ⟨by decide +kernel, rfl⟩
theorem e9_13 : Dc method_3_code 13 (.iload_n 3) 1 14 := ⟨by decide +kernel, rfl⟩
theorem e9_14 : Dc method_3_code 14 (.iload 6) 2 16 := ⟨by decide +kernel, rfl⟩
theorem e9_16 : Dc method_3_code 16 (.if_icmp .eq 23) 3 19 := ⟨by decide +kernel, rfl⟩
theorem e9_19 : Dc method_3_code 19 (.iload_n 3) 1 20 := ⟨by decide +kernel, rfl⟩
theorem e9_20 : Dc method_3_code 20 (.iload 7) 2 22 := ⟨by decide +kernel, rfl⟩
theorem e9_22 : Dc method_3_code 22 (.if_icmp .eq 17) 3 25 := ⟨by decide +kernel, rfl⟩
theorem e9_25 : Dc method_3_code 25 (.iload_n 3) 1 26 := ⟨by decide +kernel, rfl⟩
theorem e9_26 : Dc method_3_code 26 (.iload 8) 2 28 := ⟨by decide +kernel, rfl⟩
theorem e9_28 : Dc method_3_code 28 (.if_icmp .eq 11) 3 31 := ⟨by decide +kernel, rfl⟩
theorem e9_31 : Dc method_3_code 31 (.iload_n 3) 1 32 := ⟨by decide +kernel, rfl⟩
theorem e9_32 : Dc method_3_code 32 (.iload 9) 2 34 := ⟨by decide +kernel, rfl⟩
theorem e9_34 : Dc method_3_code 34 (.if_icmp .eq 5) 3 37 := ⟨by decide +kernel, rfl⟩
theorem e9_39 : Dc method_3_code 39 (.iload 5) 2 41 := ⟨by decide +kernel, rfl⟩
theorem e9_41 : Dc method_3_code 41 (.ifCond .eq 11) 3 44 := ⟨by decide +kernel, rfl⟩
theorem e9_44 : Dc method_3_code 44 (.iload 4) 2 46 := ⟨by decide +kernel, rfl⟩
theorem e9_46 : Dc method_3_code 46 (.iload_n 3) 1 47 := ⟨by decide +kernel, rfl⟩
theorem e9_47 : Dc method_3_code 47 (.if_icmp .gt 5) 3 50 := ⟨by decide +kernel, rfl⟩
theorem e9_52 : Dc method_3_code 52 (.aload_n 0) 1 53 := ⟨by decide +kernel, rfl⟩
theorem e9_53 : Dc method_3_code 53 (.iload_n 1) 1 54 := ⟨by decide +kernel, rfl⟩
theorem e9_54 : Dc method_3_code 54 (.invokevirtual 29) 3 57 := ⟨by decide +kernel, rfl⟩
theorem e9_57 : Dc method_3_code 57 (.iload_n 3) 1 58 := ⟨by decide +kernel, rfl⟩
theorem e9_58 : Dc method_3_code 58 (.iload 6) 2 60 := ⟨by decide +kernel, rfl⟩
theorem e9_60 : Dc method_3_code 60 (.iload 7) 2 62 := ⟨by decide +kernel, rfl⟩
theorem e9_62 : Dc method_3_code 62 (.iload 8) 2 64 := ⟨by decide +kernel, rfl⟩
theorem e9_64 : Dc method_3_code 64 (.iload 9) 2 66 := ⟨by decide +kernel, rfl⟩
theorem e9_66 : Dc method_3_code 66 (.invokestatic 32) 3 69 := ⟨by decide +kernel, rfl⟩
theorem e9_69 : Dc method_3_code 69 (.if_icmp .ne 7) 3 72 := ⟨by decide +kernel, rfl⟩
theorem e9_72 : Dc method_3_code 72 (.iconst 1) 1 73 := ⟨by decide +kernel, rfl⟩
theorem e9_73 : Dc method_3_code 73 (.goto 4) 3 76 := ⟨by decide +kernel, rfl⟩
theorem e9_77 : Dc method_3_code 77 (.ireturn) 1 78 := ⟨by decide +kernel, rfl⟩
theorem e10_0 : Dc prog_37_method_7_code 0 (.aload_n 0) 1 1 := ⟨by decide +kernel, rfl⟩
theorem e10_1 : Dc prog_37_method_7_code 1 (.getfield 24) 3 4 := ⟨by decide +kernel, rfl⟩
theorem e10_4 : Dc prog_37_method_7_code 4 (.iload_n 1) 1 5 := ⟨by decide +kernel, rfl⟩
theorem e10_5 : Dc prog_37_method_7_code 5 (.iconst 1) 1 6 := ⟨by decide +kernel, rfl⟩
theorem e10_6 : Dc prog_37_method_7_code 6 (.iadd) 1 7 := ⟨by decide +kernel, rfl⟩
theorem e10_7 : Dc prog_37_method_7_code 7 (.iaload) 1 8 := ⟨by decide +kernel, rfl⟩
theorem e10_8 : Dc prog_37_method_7_code 8 (.aload_n 0) 1 9 := ⟨by decide +kernel, rfl⟩
theorem e10_9 : Dc prog_37_method_7_code 9 (.getfield 24) 3 12 := ⟨by decide +kernel, rfl⟩
theorem e10_12 : Dc prog_37_method_7_code 12 (.iload_n 1) 1 13 := ⟨by decide +kernel, rfl⟩
theorem e10_13 : Dc prog_37_method_7_code 13 (.iaload) 1 14 := ⟨by decide +kernel, rfl⟩
theorem e10_14 : Dc prog_37_method_7_code 14 (.isub) 1 15 := ⟨by decide +kernel, rfl⟩
theorem e10_15 : Dc prog_37_method_7_code 15 (.ireturn) 1 16 := ⟨by decide +kernel, rfl⟩
theorem e11_0 : Dc method_4_code 0 (.iload_n 1) 1 1 := ⟨by decide +kernel, rfl⟩
theorem e11_1 : Dc method_4_code 1 (.iload_n 0) 1 2 := ⟨by decide +kernel, rfl⟩
theorem e11_2 : Dc method_4_code 2 (.if_icmp .ne 7) 3 5 := ⟨by decide +kernel, rfl⟩
theorem e11_5 : Dc method_4_code 5 (.iconst 1) 1 6 := ⟨by decide +kernel, rfl⟩
theorem e11_6 : Dc method_4_code 6 (.goto 4) 3 9 := ⟨by decide +kernel, rfl⟩
theorem e11_9 : Dc method_4_code 9 (.iconst 0) 1 10 := ⟨by decide +kernel, rfl⟩
theorem e11_10 : Dc method_4_code 10 (.iload_n 2) 1 11 := ⟨by decide +kernel, rfl⟩
theorem e11_11 : Dc method_4_code 11 (.iload_n 0) 1 12 := ⟨by decide +kernel, rfl⟩
theorem e11_12 : Dc method_4_code 12 (.if_icmp .ne 7) 3 15 := ⟨by decide +kernel, rfl⟩
theorem e11_15 : Dc method_4_code 15 (.iconst 1) 1 16 := ⟨by decide +kernel, rfl⟩
theorem e11_16 : Dc method_4_code 16 (.goto 4) 3 19 := ⟨by decide +kernel, rfl⟩
theorem e11_19 : Dc method_4_code 19 (.iconst 0) 1 20 := ⟨by decide +kernel, rfl⟩
theorem e11_20 : Dc method_4_code 20 (.iadd) 1 21 := ⟨by decide +kernel, rfl⟩
theorem e11_21 : Dc method_4_code 21 (.iload_n 3) 1 22 := ⟨by decide +kernel, rfl⟩
theorem e11_22 : Dc method_4_code 22 (.iload_n 0) 1 23 := ⟨by decide +kernel, rfl⟩
theorem e11_23 : Dc method_4_code 23 (.if_icmp .ne 7) 3 26 := ⟨by decide +kernel, rfl⟩
theorem e11_26 : Dc method_4_code 26 (.iconst 1) 1 27 := ⟨by decide +kernel, rfl⟩
theorem e11_27 : Dc method_4_code 27 (.goto 4) 3 30 := ⟨by decide +kernel, rfl⟩
theorem e11_30 : Dc method_4_code 30 (.iconst 0) 1 31 := ⟨by decide +kernel, rfl⟩
theorem e11_31 : Dc method_4_code 31 (.iadd) 1 32 := ⟨by decide +kernel, rfl⟩
theorem e11_32 : Dc method_4_code 32 (.iload 4) 2 34 := ⟨by decide +kernel, rfl⟩
theorem e11_34 : Dc method_4_code 34 (.iload_n 0) 1 35 := ⟨by decide +kernel, rfl⟩
theorem e11_35 : Dc method_4_code 35 (.if_icmp .ne 7) 3 38 := ⟨by decide +kernel, rfl⟩
theorem e11_38 : Dc method_4_code 38 (.iconst 1) 1 39 := ⟨by decide +kernel, rfl⟩
theorem e11_39 : Dc method_4_code 39 (.goto 4) 3 42 := ⟨by decide +kernel, rfl⟩
theorem e11_42 : Dc method_4_code 42 (.iconst 0) 1 43 := ⟨by decide +kernel, rfl⟩
theorem e11_43 : Dc method_4_code 43 (.iadd) 1 44 := ⟨by decide +kernel, rfl⟩
theorem e11_44 : Dc method_4_code 44 (.ireturn) 1 45 := ⟨by decide +kernel, rfl⟩
theorem pn_0 : plainName "java/util/DualPivotQuicksort" = true := by first | (simp [plainName, overriddenIn]; done) | decide +kernel
theorem hy_1 : "java/util/DualPivotQuicksort" ≠ "java/lang/invoke/MethodHandle" ∧ "java/util/DualPivotQuicksort" ≠ "java/lang/invoke/VarHandle" := by decide
theorem pd_2 : parseMethodDescriptor "([III)V" = some ⟨[(.array .int), .int, .int], none⟩ := by decide +kernel
theorem pd_3 : parseMethodDescriptor "(Ljava/util/DualPivotQuicksort$Sorter;[IIII)V" = some ⟨[(.object "java/util/DualPivotQuicksort$Sorter"), (.array .int), .int, .int, .int], none⟩ := by decide +kernel
theorem pd_4 : parseMethodDescriptor "([IIII)V" = some ⟨[(.array .int), .int, .int, .int], none⟩ := by decide +kernel
theorem pn_5 : plainName "java/util/Arrays" = true := by first | (simp [plainName, overriddenIn]; done) | decide +kernel
theorem hy_6 : "java/util/Arrays" ≠ "java/lang/invoke/MethodHandle" ∧ "java/util/Arrays" ≠ "java/lang/invoke/VarHandle" := by decide
theorem pd_7 : parseMethodDescriptor "([I)V" = some ⟨[(.array .int)], none⟩ := by decide +kernel
theorem pf_8 : parseFieldDescriptor "[I" = some (.array .int) := by decide +kernel
theorem pf_9 : parseFieldDescriptor "[J" = some (.array .long) := by decide +kernel
theorem pn_10 : plainName "com/example/outliers_into_crowds/outliersintocrowds/schedule/Splits" = true := by first | (simp [plainName, overriddenIn]; done) | decide +kernel
theorem pn_11 : plainName "com/example/outliers_into_crowds/outliersintocrowds/schedule/SplitsSlotsWithPinLaw" = true := by first | (simp [plainName, overriddenIn]; done) | decide +kernel
theorem hy_12 : "com/example/outliers_into_crowds/outliersintocrowds/schedule/Splits" ≠ "java/lang/invoke/MethodHandle" ∧ "com/example/outliers_into_crowds/outliersintocrowds/schedule/Splits" ≠ "java/lang/invoke/VarHandle" := by decide
theorem pd_13 : parseMethodDescriptor "(I)I" = some ⟨[.int], some .int⟩ := by decide +kernel
theorem hy_14 : "com/example/outliers_into_crowds/outliersintocrowds/schedule/SplitsSlotsWithPinLaw" ≠ "java/lang/invoke/MethodHandle" ∧ "com/example/outliers_into_crowds/outliersintocrowds/schedule/SplitsSlotsWithPinLaw" ≠ "java/lang/invoke/VarHandle" := by decide
theorem pd_15 : parseMethodDescriptor "(IIIII)I" = some ⟨[.int, .int, .int, .int, .int], some .int⟩ := by decide +kernel
theorem lay_16 {Z : State} {a0 : Array Value} {b : Nat} (hw : ∀ d ∈ tables_1, d.before a0 Z = true) : Laids Z a0 b "com/example/outliers_into_crowds/outliersintocrowds/schedule/Splits" [("rooms", "[I", .null), ("ahead", "[I", .null), ("held", "[J", .null)] := ⟨⟨Or.inr (hw _ (wd 34 rfl)), _, pf_8, rfl⟩, ⟨⟨Or.inr (hw _ (wd 36 rfl)), _, pf_8, rfl⟩, ⟨⟨Or.inr (hw _ (wd 39 rfl)), _, pf_9, rfl⟩, trivial⟩⟩⟩
theorem nd_17 : (["rooms", "ahead", "held"] : List String).Nodup := by decide
theorem pd_18 : parseMethodDescriptor "()I" = some ⟨[], some .int⟩ := by decide +kernel
theorem pd_19 : parseMethodDescriptor "(Lcom/example/outliers_into_crowds/outliersintocrowds/schedule/Splits;IIIIZIIII)Z" = some ⟨[(.object "com/example/outliers_into_crowds/outliersintocrowds/schedule/Splits"), .int, .int, .int, .int, .boolean, .int, .int, .int, .int], some .boolean⟩ := by decide +kernel
abbrev So (r a h : Value) : GCell := ob "com/example/outliers_into_crowds/outliersintocrowds/schedule/Splits" [("rooms", "[I", r), ("ahead", "[I", a), ("held", "[J", h)]
def own_D (a b c d : Int32) : Int := (if 0 < a.toInt then 1 else 0) + (if 0 < b.toInt ∧ b.toInt ≠ a.toInt then 1 else 0) + (if 0 < c.toInt ∧ c.toInt ≠ a.toInt ∧ c.toInt ≠ b.toInt then 1 else 0) + (if 0 < d.toInt ∧ d.toInt ≠ a.toInt ∧ d.toInt ≠ b.toInt ∧ d.toInt ≠ c.toInt then 1 else 0)
def own_cnt (v a b c d : Int32) : Int := (if a.toInt = v.toInt then 1 else 0) + (if b.toInt = v.toInt then 1 else 0) + (if c.toInt = v.toInt then 1 else 0) + (if d.toInt = v.toInt then 1 else 0)
theorem own_D01 (a b c d : Int32) : own_D a b c d = own_D b a c d := by
  unfold own_D
  generalize a.toInt = p; generalize b.toInt = q; generalize c.toInt = r; generalize d.toInt = s
  have e1 : (0 < r ∧ r ≠ p ∧ r ≠ q) ↔ (0 < r ∧ r ≠ q ∧ r ≠ p) := by omega
  have e2 : (0 < s ∧ s ≠ p ∧ s ≠ q ∧ s ≠ r) ↔ (0 < s ∧ s ≠ q ∧ s ≠ p ∧ s ≠ r) := by omega
  simp only [e1, e2]
  have : (if 0 < p then 1 else 0 : Int) + (if 0 < q ∧ q ≠ p then 1 else 0) = (if 0 < q then 1 else 0) + (if 0 < p ∧ p ≠ q then 1 else 0) := by
    (repeat' split) <;> omega
  omega
theorem own_D12 (a b c d : Int32) : own_D a b c d = own_D a c b d := by
  unfold own_D
  generalize a.toInt = p; generalize b.toInt = q; generalize c.toInt = r; generalize d.toInt = s
  have e2 : (0 < s ∧ s ≠ p ∧ s ≠ q ∧ s ≠ r) ↔ (0 < s ∧ s ≠ p ∧ s ≠ r ∧ s ≠ q) := by omega
  simp only [e2]
  have : (if 0 < q ∧ q ≠ p then 1 else 0 : Int) + (if 0 < r ∧ r ≠ p ∧ r ≠ q then 1 else 0) = (if 0 < r ∧ r ≠ p then 1 else 0) + (if 0 < q ∧ q ≠ p ∧ q ≠ r then 1 else 0) := by
    (repeat' split) <;> omega
  omega
theorem own_D23 (a b c d : Int32) : own_D a b c d = own_D a b d c := by
  unfold own_D
  generalize a.toInt = p; generalize b.toInt = q; generalize c.toInt = r; generalize d.toInt = s
  have : (if 0 < r ∧ r ≠ p ∧ r ≠ q then 1 else 0 : Int) + (if 0 < s ∧ s ≠ p ∧ s ≠ q ∧ s ≠ r then 1 else 0) = (if 0 < s ∧ s ≠ p ∧ s ≠ q then 1 else 0) + (if 0 < r ∧ r ≠ p ∧ r ≠ q ∧ r ≠ s then 1 else 0) := by
    (repeat' split) <;> omega
  omega
def Pm (x0 x1 x2 x3 a b c d : Int32) : Prop := own_D x0 x1 x2 x3 = own_D a b c d ∧ ∀ v, own_cnt v x0 x1 x2 x3 = own_cnt v a b c d
section Pms
variable {x0 x1 x2 x3 a b c d : Int32}
theorem Pm.refl : Pm a b c d a b c d := ⟨rfl, fun _ => rfl⟩
theorem Pm.s0 (h : Pm x0 x1 x2 x3 a b c d) : Pm x0 x1 x2 x3 b a c d := ⟨h.1.trans (own_D01 ..), fun v => by rw [h.2 v]; unfold own_cnt; omega⟩
theorem Pm.s1 (h : Pm x0 x1 x2 x3 a b c d) : Pm x0 x1 x2 x3 a c b d := ⟨h.1.trans (own_D12 ..), fun v => by rw [h.2 v]; unfold own_cnt; omega⟩
theorem Pm.s2 (h : Pm x0 x1 x2 x3 a b c d) : Pm x0 x1 x2 x3 a b d c := ⟨h.1.trans (own_D23 ..), fun v => by rw [h.2 v]; unfold own_cnt; omega⟩
theorem own_mem {v : Int32} (h : 0 < own_cnt v a b c d) : v = a ∨ v = b ∨ v = c ∨ v = d := by
  unfold own_cnt at h
  by_cases h0 : a.toInt = v.toInt
  · exact Or.inl (Int32.toInt_inj.mp h0.symm)
  · by_cases h1 : b.toInt = v.toInt
    · exact Or.inr (Or.inl (Int32.toInt_inj.mp h1.symm))
    · by_cases h2 : c.toInt = v.toInt
      · exact Or.inr (Or.inr (Or.inl (Int32.toInt_inj.mp h2.symm)))
      · by_cases h3 : d.toInt = v.toInt
        · exact Or.inr (Or.inr (Or.inr (Int32.toInt_inj.mp h3.symm)))
        · rw [if_neg h0, if_neg h1, if_neg h2, if_neg h3] at h; omega
end Pms
def SpL (cn : Int32 → Int) : List Int32 → List Int32 → Prop
  | v :: R, x :: y :: A => (0 < v.toInt ∧ (y - x).toInt = cn v ∧ 0 < cn v ∧ ∀ w, R.head? = some w → w.toInt < v.toInt) ∧ SpL cn R (y :: A)
  | [], [_] => True
  | _, _ => False
def own_F (cn : Int32 → Int) (v x y : Int32) : Prop := 0 < v.toInt ∧ (y - x).toInt = cn v ∧ 0 < cn v
theorem own_cases {cn : Int32 → Int} {R A : List Int32} (h : SpL cn R A) (hl : R.length ≤ 4) : (∃ x0, R = [] ∧ A = [x0]) ∨ (∃ v0 x0 x1, R = [v0] ∧ A = [x0, x1] ∧ own_F cn v0 x0 x1) ∨ (∃ v0 v1 x0 x1 x2, R = [v0, v1] ∧ A = [x0, x1, x2] ∧ own_F cn v0 x0 x1 ∧ own_F cn v1 x1 x2 ∧ v1.toInt < v0.toInt) ∨ (∃ v0 v1 v2 x0 x1 x2 x3, R = [v0, v1, v2] ∧ A = [x0, x1, x2, x3] ∧ own_F cn v0 x0 x1 ∧ own_F cn v1 x1 x2 ∧ own_F cn v2 x2 x3 ∧ v1.toInt < v0.toInt ∧ v2.toInt < v1.toInt) ∨ (∃ v0 v1 v2 v3 x0 x1 x2 x3 x4, R = [v0, v1, v2, v3] ∧ A = [x0, x1, x2, x3, x4] ∧ own_F cn v0 x0 x1 ∧ own_F cn v1 x1 x2 ∧ own_F cn v2 x2 x3 ∧ own_F cn v3 x3 x4 ∧ v1.toInt < v0.toInt ∧ v2.toInt < v1.toInt ∧ v3.toInt < v2.toInt) := by
  match R, A, h, hl with
  | [], [x0], _, _ => exact Or.inl ⟨x0, rfl, rfl⟩
  | [v0], [x0, x1], ⟨⟨a1, a2, a3, _⟩, _⟩, _ => exact Or.inr (Or.inl ⟨v0, x0, x1, rfl, rfl, a1, a2, a3⟩)
  | [v0, v1], [x0, x1, x2], ⟨⟨a1, a2, a3, a4⟩, ⟨b1, b2, b3, _⟩, _⟩, _ => exact Or.inr (Or.inr (Or.inl ⟨v0, v1, x0, x1, x2, rfl, rfl, ⟨a1, a2, a3⟩, ⟨b1, b2, b3⟩, a4 _ rfl⟩))
  | [v0, v1, v2], [x0, x1, x2, x3], ⟨⟨a1, a2, a3, a4⟩, ⟨b1, b2, b3, b4⟩, ⟨c1, c2, c3, _⟩, _⟩, _ => exact Or.inr (Or.inr (Or.inr (Or.inl ⟨v0, v1, v2, x0, x1, x2, x3, rfl, rfl, ⟨a1, a2, a3⟩, ⟨b1, b2, b3⟩, ⟨c1, c2, c3⟩, a4 _ rfl, b4 _ rfl⟩)))
  | [v0, v1, v2, v3], [x0, x1, x2, x3, x4], ⟨⟨a1, a2, a3, a4⟩, ⟨b1, b2, b3, b4⟩, ⟨c1, c2, c3, c4⟩, ⟨d1, d2, d3, _⟩, _⟩, _ => exact Or.inr (Or.inr (Or.inr (Or.inr ⟨v0, v1, v2, v3, x0, x1, x2, x3, x4, rfl, rfl, ⟨a1, a2, a3⟩, ⟨b1, b2, b3⟩, ⟨c1, c2, c3⟩, ⟨d1, d2, d3⟩, a4 _ rfl, b4 _ rfl, c4 _ rfl⟩)))
  | [], [], h, _ => exact h.elim
  | [], _ :: _ :: _, h, _ => exact h.elim
  | _ :: _, [], h, _ => exact h.elim
  | _ :: _, [_], h, _ => exact h.elim
  | [_], _ :: _ :: _ :: _, ⟨_, h⟩, _ => exact h.elim
  | [_, _], [_, _], ⟨_, h⟩, _ => exact h.elim
  | [_, _], _ :: _ :: _ :: _ :: _, ⟨_, _, h⟩, _ => exact h.elim
  | [_, _, _], [_, _], ⟨_, h⟩, _ => exact h.elim
  | [_, _, _], [_, _, _], ⟨_, _, h⟩, _ => exact h.elim
  | [_, _, _], _ :: _ :: _ :: _ :: _ :: _, ⟨_, _, _, h⟩, _ => exact h.elim
  | [_, _, _, _], [_, _], ⟨_, h⟩, _ => exact h.elim
  | [_, _, _, _], [_, _, _], ⟨_, _, h⟩, _ => exact h.elim
  | [_, _, _, _], [_, _, _, _], ⟨_, _, _, h⟩, _ => exact h.elim
  | [_, _, _, _], _ :: _ :: _ :: _ :: _ :: _ :: _, ⟨_, _, _, _, h⟩, _ => exact h.elim
  | _ :: _ :: _ :: _ :: _ :: _, _, _, hl => exact absurd hl (by simp)
theorem own_add {x y : Int32} {m n : Int} (h : x.toInt = m) (h2 : y.toInt = n) (l : -1000 ≤ m + n) (u : m + n ≤ 1000) : (x + y).toInt = m + n := by
  have e := c_iadd x y
  have l1 := Int32.le_toInt (x + y)
  have l2 := Int32.toInt_lt (x + y)
  omega
theorem own_if01 (p : Prop) [Decidable p] : 0 ≤ (if p then 1 else 0 : Int) ∧ (if p then 1 else 0 : Int) ≤ 1 := by split <;> omega
theorem own_r4 {a b c d : Int32} : ∀ v ∈ ([.int a, .int b, .int c, .int d] : List Value), ∃ x : Int32, v = .int x := by
  intro v hv
  simp only [List.mem_cons, List.not_mem_nil, or_false] at hv
  rcases hv with rfl | rfl | rfl | rfl <;> exact ⟨_, rfl⟩
theorem own_inc {x : Int32} {k : Nat} (h : x.toInt = (k : Int)) (u : k ≤ 900) : (x + 1).toInt = ((k + 1 : Nat) : Int) := by
  have k1 : (1 : Int32).toInt = 1 := rfl
  have a := own_add h k1 (by omega) (by omega)
  rw [a]; omega

set_option maxRecDepth 65536 in
set_option maxHeartbeats 4000000 in
theorem c_ins {l : Launch} {Z : State} {a0 : Array Value} {b : Nat} (hw : ∀ d ∈ tables_1, d.before a0 Z = true) {H : List GCell} {q : Nat} {x0 x1 x2 x3 : Int32} (hq : H[q]? = some (ar .int [.int x0, .int x1, .int x2, .int x3])) :
    Met l Z a0 b (⟨"java/util/DualPivotQuicksort", "insertionSort", "([III)V"⟩ : MethodName) jdk_2529_method_6_code 6 none ({ frames := 0, cells := 0, slots := 0, locals := 0 } : Room) [.ref q, .int 0, .int 4] H (fun v H' => v = none ∧ ∃ s0 s1 s2 s3 : Int32, H' = H.set q (ar .int [.int s0, .int s1, .int s2, .int s3]) ∧ s0.toInt ≤ s1.toInt ∧ s1.toInt ≤ s2.toInt ∧ s2.toInt ≤ s3.toInt ∧ Pm x0 x1 x2 x3 s0 s1 s2 s3) := by
  refine Met.of_go hw (plainFor_of_name pn_0) (L0 := [.val (.ref q), .val (.int 0), .val (.int 4), .unset, .unset, .unset]) rfl ?_
  intro p e s m args below meth c C
  have hS : Go C 0 [.val (.ref q), .val (.int 0), .val (.int 4), .unset, .unset, .unset] [] (H.set q (ar .int [.int x0, .int x1, .int x2, .int x3])) 0 0 := by
    refine go_iloadN e6_0 rfl ?_
    refine go_istore_4 e6_1 rfl ?_
    refine go_iinc_4 e6_3 (z := 1) rfl ?_
    refine go_iload e6_6 rfl ?_
    refine go_iloadN e6_8 rfl ?_
    refine go_icgeN e6_9 (tg := 67) (by decide) (by decide) ?_
    refine go_aloadN e6_12 rfl rfl ?_
    refine go_iload e6_13 rfl ?_
    refine go_dup e6_15 rfl ?_
    refine go_istore_3 e6_16 rfl ?_
    refine go_iaload e6_17 (get_eq hq) (k := 1) (by decide) rfl ?_
    refine go_istore_5 e6_18 rfl ?_
    refine go_iload e6_20 rfl ?_
    refine go_aloadN e6_22 rfl rfl ?_
    refine go_iloadN e6_23 rfl ?_
    refine go_iconst e6_24 (x := 1) rfl ?_
    refine go_isub e6_25 ?_
    refine go_iaload e6_26 (get_eq hq) (k := 0) (by decide) rfl ?_
    refine go_icge e6_27 (tg := 64) (by decide) ?_ ?_
    · intro u1_0
      refine go_goto e6_64 (tg := 3) (by decide) ?_
      refine go_iinc_4 e6_3 (z := 1) rfl ?_
      refine go_iload e6_6 rfl ?_
      refine go_iloadN e6_8 rfl ?_
      refine go_icgeN e6_9 (tg := 67) (by decide) (by decide) ?_
      refine go_aloadN e6_12 rfl rfl ?_
      refine go_iload e6_13 rfl ?_
      refine go_dup e6_15 rfl ?_
      refine go_istore_3 e6_16 rfl ?_
      refine go_iaload e6_17 (get_eq hq) (k := 2) (by decide) rfl ?_
      refine go_istore_5 e6_18 rfl ?_
      refine go_iload e6_20 rfl ?_
      refine go_aloadN e6_22 rfl rfl ?_
      refine go_iloadN e6_23 rfl ?_
      refine go_iconst e6_24 (x := 1) rfl ?_
      refine go_isub e6_25 ?_
      refine go_iaload e6_26 (get_eq hq) (k := 1) (by decide) rfl ?_
      refine go_icge e6_27 (tg := 64) (by decide) ?_ ?_
      · intro u2_1
        refine go_goto e6_64 (tg := 3) (by decide) ?_
        refine go_iinc_4 e6_3 (z := 1) rfl ?_
        refine go_iload e6_6 rfl ?_
        refine go_iloadN e6_8 rfl ?_
        refine go_icgeN e6_9 (tg := 67) (by decide) (by decide) ?_
        refine go_aloadN e6_12 rfl rfl ?_
        refine go_iload e6_13 rfl ?_
        refine go_dup e6_15 rfl ?_
        refine go_istore_3 e6_16 rfl ?_
        refine go_iaload e6_17 (get_eq hq) (k := 3) (by decide) rfl ?_
        refine go_istore_5 e6_18 rfl ?_
        refine go_iload e6_20 rfl ?_
        refine go_aloadN e6_22 rfl rfl ?_
        refine go_iloadN e6_23 rfl ?_
        refine go_iconst e6_24 (x := 1) rfl ?_
        refine go_isub e6_25 ?_
        refine go_iaload e6_26 (get_eq hq) (k := 2) (by decide) rfl ?_
        refine go_icge e6_27 (tg := 64) (by decide) ?_ ?_
        · intro u3_2
          refine go_goto e6_64 (tg := 3) (by decide) ?_
          refine go_iinc_4 e6_3 (z := 1) rfl ?_
          refine go_iload e6_6 rfl ?_
          refine go_iloadN e6_8 rfl ?_
          refine go_icgeY e6_9 (tg := 67) (by decide) (by decide) ?_
          refine go_return e6_67 rfl (by decide) (by decide) ?_
          exact ⟨rfl, x0, x1, x2, x3, rfl, by omega, by omega, by omega, Pm.refl⟩
        · intro u3_2
          refine go_iinc_3 e6_30 (z := (-1)) rfl ?_
          refine go_iloadN e6_33 rfl ?_
          refine go_iloadN e6_34 rfl ?_
          refine go_icltN e6_35 (tg := 57) (by decide) (by decide) ?_
          refine go_iload e6_38 rfl ?_
          refine go_aloadN e6_40 rfl rfl ?_
          refine go_iloadN e6_41 rfl ?_
          refine go_iaload e6_42 (get_eq hq) (k := 2) (by decide) rfl ?_
          refine go_icgeN e6_43 (tg := 57) (by decide) u3_2 ?_
          refine go_aloadN e6_46 rfl rfl ?_
          refine go_iloadN e6_47 rfl ?_
          refine go_iconst e6_48 (x := 1) rfl ?_
          refine go_iadd e6_49 ?_
          refine go_aloadN e6_50 rfl rfl ?_
          refine go_iloadN e6_51 rfl ?_
          refine go_iaload e6_52 (get_eq hq) (k := 2) (by decide) rfl ?_
          refine go_iastore e6_53 (get_eq hq) (k := 3) (by decide) (Nat.le_of_ble_eq_true rfl) ?_
          rw [List.set_set]
          simp only [List.set_cons_zero, List.set_cons_succ]
          refine go_goto e6_54 (tg := 30) (by decide) ?_
          refine go_iinc_3 e6_30 (z := (-1)) rfl ?_
          refine go_iloadN e6_33 rfl ?_
          refine go_iloadN e6_34 rfl ?_
          refine go_icltN e6_35 (tg := 57) (by decide) (by decide) ?_
          refine go_iload e6_38 rfl ?_
          refine go_aloadN e6_40 rfl rfl ?_
          refine go_iloadN e6_41 rfl ?_
          refine go_iaload e6_42 (get_eq hq) (k := 1) (by decide) rfl ?_
          refine go_icge e6_43 (tg := 57) (by decide) ?_ ?_
          · intro u3_1
            refine go_aloadN e6_57 rfl rfl ?_
            refine go_iloadN e6_58 rfl ?_
            refine go_iconst e6_59 (x := 1) rfl ?_
            refine go_iadd e6_60 ?_
            refine go_iload e6_61 rfl ?_
            refine go_iastore e6_63 (get_eq hq) (k := 2) (by decide) (Nat.le_of_ble_eq_true rfl) ?_
            rw [List.set_set]
            simp only [List.set_cons_zero, List.set_cons_succ]
            refine go_goto e6_64 (tg := 3) (by decide) ?_
            refine go_iinc_4 e6_3 (z := 1) rfl ?_
            refine go_iload e6_6 rfl ?_
            refine go_iloadN e6_8 rfl ?_
            refine go_icgeY e6_9 (tg := 67) (by decide) (by decide) ?_
            refine go_return e6_67 rfl (by decide) (by decide) ?_
            exact ⟨rfl, x0, x1, x3, x2, rfl, by omega, by omega, by omega, (Pm.refl).s2⟩
          · intro u3_1
            refine go_aloadN e6_46 rfl rfl ?_
            refine go_iloadN e6_47 rfl ?_
            refine go_iconst e6_48 (x := 1) rfl ?_
            refine go_iadd e6_49 ?_
            refine go_aloadN e6_50 rfl rfl ?_
            refine go_iloadN e6_51 rfl ?_
            refine go_iaload e6_52 (get_eq hq) (k := 1) (by decide) rfl ?_
            refine go_iastore e6_53 (get_eq hq) (k := 2) (by decide) (Nat.le_of_ble_eq_true rfl) ?_
            rw [List.set_set]
            simp only [List.set_cons_zero, List.set_cons_succ]
            refine go_goto e6_54 (tg := 30) (by decide) ?_
            refine go_iinc_3 e6_30 (z := (-1)) rfl ?_
            refine go_iloadN e6_33 rfl ?_
            refine go_iloadN e6_34 rfl ?_
            refine go_icltN e6_35 (tg := 57) (by decide) (by decide) ?_
            refine go_iload e6_38 rfl ?_
            refine go_aloadN e6_40 rfl rfl ?_
            refine go_iloadN e6_41 rfl ?_
            refine go_iaload e6_42 (get_eq hq) (k := 0) (by decide) rfl ?_
            refine go_icge e6_43 (tg := 57) (by decide) ?_ ?_
            · intro u3_0
              refine go_aloadN e6_57 rfl rfl ?_
              refine go_iloadN e6_58 rfl ?_
              refine go_iconst e6_59 (x := 1) rfl ?_
              refine go_iadd e6_60 ?_
              refine go_iload e6_61 rfl ?_
              refine go_iastore e6_63 (get_eq hq) (k := 1) (by decide) (Nat.le_of_ble_eq_true rfl) ?_
              rw [List.set_set]
              simp only [List.set_cons_zero, List.set_cons_succ]
              refine go_goto e6_64 (tg := 3) (by decide) ?_
              refine go_iinc_4 e6_3 (z := 1) rfl ?_
              refine go_iload e6_6 rfl ?_
              refine go_iloadN e6_8 rfl ?_
              refine go_icgeY e6_9 (tg := 67) (by decide) (by decide) ?_
              refine go_return e6_67 rfl (by decide) (by decide) ?_
              exact ⟨rfl, x0, x3, x1, x2, rfl, by omega, by omega, by omega, ((Pm.refl).s2).s1⟩
            · intro u3_0
              refine go_aloadN e6_46 rfl rfl ?_
              refine go_iloadN e6_47 rfl ?_
              refine go_iconst e6_48 (x := 1) rfl ?_
              refine go_iadd e6_49 ?_
              refine go_aloadN e6_50 rfl rfl ?_
              refine go_iloadN e6_51 rfl ?_
              refine go_iaload e6_52 (get_eq hq) (k := 0) (by decide) rfl ?_
              refine go_iastore e6_53 (get_eq hq) (k := 1) (by decide) (Nat.le_of_ble_eq_true rfl) ?_
              rw [List.set_set]
              simp only [List.set_cons_zero, List.set_cons_succ]
              refine go_goto e6_54 (tg := 30) (by decide) ?_
              refine go_iinc_3 e6_30 (z := (-1)) rfl ?_
              refine go_iloadN e6_33 rfl ?_
              refine go_iloadN e6_34 rfl ?_
              refine go_icltY e6_35 (tg := 57) (by decide) (by decide) ?_
              refine go_aloadN e6_57 rfl rfl ?_
              refine go_iloadN e6_58 rfl ?_
              refine go_iconst e6_59 (x := 1) rfl ?_
              refine go_iadd e6_60 ?_
              refine go_iload e6_61 rfl ?_
              refine go_iastore e6_63 (get_eq hq) (k := 0) (by decide) (Nat.le_of_ble_eq_true rfl) ?_
              rw [List.set_set]
              simp only [List.set_cons_zero, List.set_cons_succ]
              refine go_goto e6_64 (tg := 3) (by decide) ?_
              refine go_iinc_4 e6_3 (z := 1) rfl ?_
              refine go_iload e6_6 rfl ?_
              refine go_iloadN e6_8 rfl ?_
              refine go_icgeY e6_9 (tg := 67) (by decide) (by decide) ?_
              refine go_return e6_67 rfl (by decide) (by decide) ?_
              exact ⟨rfl, x3, x0, x1, x2, rfl, by omega, by omega, by omega, (((Pm.refl).s2).s1).s0⟩
      · intro u2_1
        refine go_iinc_3 e6_30 (z := (-1)) rfl ?_
        refine go_iloadN e6_33 rfl ?_
        refine go_iloadN e6_34 rfl ?_
        refine go_icltN e6_35 (tg := 57) (by decide) (by decide) ?_
        refine go_iload e6_38 rfl ?_
        refine go_aloadN e6_40 rfl rfl ?_
        refine go_iloadN e6_41 rfl ?_
        refine go_iaload e6_42 (get_eq hq) (k := 1) (by decide) rfl ?_
        refine go_icgeN e6_43 (tg := 57) (by decide) u2_1 ?_
        refine go_aloadN e6_46 rfl rfl ?_
        refine go_iloadN e6_47 rfl ?_
        refine go_iconst e6_48 (x := 1) rfl ?_
        refine go_iadd e6_49 ?_
        refine go_aloadN e6_50 rfl rfl ?_
        refine go_iloadN e6_51 rfl ?_
        refine go_iaload e6_52 (get_eq hq) (k := 1) (by decide) rfl ?_
        refine go_iastore e6_53 (get_eq hq) (k := 2) (by decide) (Nat.le_of_ble_eq_true rfl) ?_
        rw [List.set_set]
        simp only [List.set_cons_zero, List.set_cons_succ]
        refine go_goto e6_54 (tg := 30) (by decide) ?_
        refine go_iinc_3 e6_30 (z := (-1)) rfl ?_
        refine go_iloadN e6_33 rfl ?_
        refine go_iloadN e6_34 rfl ?_
        refine go_icltN e6_35 (tg := 57) (by decide) (by decide) ?_
        refine go_iload e6_38 rfl ?_
        refine go_aloadN e6_40 rfl rfl ?_
        refine go_iloadN e6_41 rfl ?_
        refine go_iaload e6_42 (get_eq hq) (k := 0) (by decide) rfl ?_
        refine go_icge e6_43 (tg := 57) (by decide) ?_ ?_
        · intro u2_0
          refine go_aloadN e6_57 rfl rfl ?_
          refine go_iloadN e6_58 rfl ?_
          refine go_iconst e6_59 (x := 1) rfl ?_
          refine go_iadd e6_60 ?_
          refine go_iload e6_61 rfl ?_
          refine go_iastore e6_63 (get_eq hq) (k := 1) (by decide) (Nat.le_of_ble_eq_true rfl) ?_
          rw [List.set_set]
          simp only [List.set_cons_zero, List.set_cons_succ]
          refine go_goto e6_64 (tg := 3) (by decide) ?_
          refine go_iinc_4 e6_3 (z := 1) rfl ?_
          refine go_iload e6_6 rfl ?_
          refine go_iloadN e6_8 rfl ?_
          refine go_icgeN e6_9 (tg := 67) (by decide) (by decide) ?_
          refine go_aloadN e6_12 rfl rfl ?_
          refine go_iload e6_13 rfl ?_
          refine go_dup e6_15 rfl ?_
          refine go_istore_3 e6_16 rfl ?_
          refine go_iaload e6_17 (get_eq hq) (k := 3) (by decide) rfl ?_
          refine go_istore_5 e6_18 rfl ?_
          refine go_iload e6_20 rfl ?_
          refine go_aloadN e6_22 rfl rfl ?_
          refine go_iloadN e6_23 rfl ?_
          refine go_iconst e6_24 (x := 1) rfl ?_
          refine go_isub e6_25 ?_
          refine go_iaload e6_26 (get_eq hq) (k := 2) (by decide) rfl ?_
          refine go_icge e6_27 (tg := 64) (by decide) ?_ ?_
          · intro u3_2
            refine go_goto e6_64 (tg := 3) (by decide) ?_
            refine go_iinc_4 e6_3 (z := 1) rfl ?_
            refine go_iload e6_6 rfl ?_
            refine go_iloadN e6_8 rfl ?_
            refine go_icgeY e6_9 (tg := 67) (by decide) (by decide) ?_
            refine go_return e6_67 rfl (by decide) (by decide) ?_
            exact ⟨rfl, x0, x2, x1, x3, rfl, by omega, by omega, by omega, (Pm.refl).s1⟩
          · intro u3_2
            refine go_iinc_3 e6_30 (z := (-1)) rfl ?_
            refine go_iloadN e6_33 rfl ?_
            refine go_iloadN e6_34 rfl ?_
            refine go_icltN e6_35 (tg := 57) (by decide) (by decide) ?_
            refine go_iload e6_38 rfl ?_
            refine go_aloadN e6_40 rfl rfl ?_
            refine go_iloadN e6_41 rfl ?_
            refine go_iaload e6_42 (get_eq hq) (k := 2) (by decide) rfl ?_
            refine go_icgeN e6_43 (tg := 57) (by decide) u3_2 ?_
            refine go_aloadN e6_46 rfl rfl ?_
            refine go_iloadN e6_47 rfl ?_
            refine go_iconst e6_48 (x := 1) rfl ?_
            refine go_iadd e6_49 ?_
            refine go_aloadN e6_50 rfl rfl ?_
            refine go_iloadN e6_51 rfl ?_
            refine go_iaload e6_52 (get_eq hq) (k := 2) (by decide) rfl ?_
            refine go_iastore e6_53 (get_eq hq) (k := 3) (by decide) (Nat.le_of_ble_eq_true rfl) ?_
            rw [List.set_set]
            simp only [List.set_cons_zero, List.set_cons_succ]
            refine go_goto e6_54 (tg := 30) (by decide) ?_
            refine go_iinc_3 e6_30 (z := (-1)) rfl ?_
            refine go_iloadN e6_33 rfl ?_
            refine go_iloadN e6_34 rfl ?_
            refine go_icltN e6_35 (tg := 57) (by decide) (by decide) ?_
            refine go_iload e6_38 rfl ?_
            refine go_aloadN e6_40 rfl rfl ?_
            refine go_iloadN e6_41 rfl ?_
            refine go_iaload e6_42 (get_eq hq) (k := 1) (by decide) rfl ?_
            refine go_icge e6_43 (tg := 57) (by decide) ?_ ?_
            · intro u3_1
              refine go_aloadN e6_57 rfl rfl ?_
              refine go_iloadN e6_58 rfl ?_
              refine go_iconst e6_59 (x := 1) rfl ?_
              refine go_iadd e6_60 ?_
              refine go_iload e6_61 rfl ?_
              refine go_iastore e6_63 (get_eq hq) (k := 2) (by decide) (Nat.le_of_ble_eq_true rfl) ?_
              rw [List.set_set]
              simp only [List.set_cons_zero, List.set_cons_succ]
              refine go_goto e6_64 (tg := 3) (by decide) ?_
              refine go_iinc_4 e6_3 (z := 1) rfl ?_
              refine go_iload e6_6 rfl ?_
              refine go_iloadN e6_8 rfl ?_
              refine go_icgeY e6_9 (tg := 67) (by decide) (by decide) ?_
              refine go_return e6_67 rfl (by decide) (by decide) ?_
              exact ⟨rfl, x0, x2, x3, x1, rfl, by omega, by omega, by omega, ((Pm.refl).s1).s2⟩
            · intro u3_1
              refine go_aloadN e6_46 rfl rfl ?_
              refine go_iloadN e6_47 rfl ?_
              refine go_iconst e6_48 (x := 1) rfl ?_
              refine go_iadd e6_49 ?_
              refine go_aloadN e6_50 rfl rfl ?_
              refine go_iloadN e6_51 rfl ?_
              refine go_iaload e6_52 (get_eq hq) (k := 1) (by decide) rfl ?_
              refine go_iastore e6_53 (get_eq hq) (k := 2) (by decide) (Nat.le_of_ble_eq_true rfl) ?_
              rw [List.set_set]
              simp only [List.set_cons_zero, List.set_cons_succ]
              refine go_goto e6_54 (tg := 30) (by decide) ?_
              refine go_iinc_3 e6_30 (z := (-1)) rfl ?_
              refine go_iloadN e6_33 rfl ?_
              refine go_iloadN e6_34 rfl ?_
              refine go_icltN e6_35 (tg := 57) (by decide) (by decide) ?_
              refine go_iload e6_38 rfl ?_
              refine go_aloadN e6_40 rfl rfl ?_
              refine go_iloadN e6_41 rfl ?_
              refine go_iaload e6_42 (get_eq hq) (k := 0) (by decide) rfl ?_
              refine go_icge e6_43 (tg := 57) (by decide) ?_ ?_
              · intro u3_0
                refine go_aloadN e6_57 rfl rfl ?_
                refine go_iloadN e6_58 rfl ?_
                refine go_iconst e6_59 (x := 1) rfl ?_
                refine go_iadd e6_60 ?_
                refine go_iload e6_61 rfl ?_
                refine go_iastore e6_63 (get_eq hq) (k := 1) (by decide) (Nat.le_of_ble_eq_true rfl) ?_
                rw [List.set_set]
                simp only [List.set_cons_zero, List.set_cons_succ]
                refine go_goto e6_64 (tg := 3) (by decide) ?_
                refine go_iinc_4 e6_3 (z := 1) rfl ?_
                refine go_iload e6_6 rfl ?_
                refine go_iloadN e6_8 rfl ?_
                refine go_icgeY e6_9 (tg := 67) (by decide) (by decide) ?_
                refine go_return e6_67 rfl (by decide) (by decide) ?_
                exact ⟨rfl, x0, x3, x2, x1, rfl, by omega, by omega, by omega, (((Pm.refl).s1).s2).s1⟩
              · intro u3_0
                refine go_aloadN e6_46 rfl rfl ?_
                refine go_iloadN e6_47 rfl ?_
                refine go_iconst e6_48 (x := 1) rfl ?_
                refine go_iadd e6_49 ?_
                refine go_aloadN e6_50 rfl rfl ?_
                refine go_iloadN e6_51 rfl ?_
                refine go_iaload e6_52 (get_eq hq) (k := 0) (by decide) rfl ?_
                refine go_iastore e6_53 (get_eq hq) (k := 1) (by decide) (Nat.le_of_ble_eq_true rfl) ?_
                rw [List.set_set]
                simp only [List.set_cons_zero, List.set_cons_succ]
                refine go_goto e6_54 (tg := 30) (by decide) ?_
                refine go_iinc_3 e6_30 (z := (-1)) rfl ?_
                refine go_iloadN e6_33 rfl ?_
                refine go_iloadN e6_34 rfl ?_
                refine go_icltY e6_35 (tg := 57) (by decide) (by decide) ?_
                refine go_aloadN e6_57 rfl rfl ?_
                refine go_iloadN e6_58 rfl ?_
                refine go_iconst e6_59 (x := 1) rfl ?_
                refine go_iadd e6_60 ?_
                refine go_iload e6_61 rfl ?_
                refine go_iastore e6_63 (get_eq hq) (k := 0) (by decide) (Nat.le_of_ble_eq_true rfl) ?_
                rw [List.set_set]
                simp only [List.set_cons_zero, List.set_cons_succ]
                refine go_goto e6_64 (tg := 3) (by decide) ?_
                refine go_iinc_4 e6_3 (z := 1) rfl ?_
                refine go_iload e6_6 rfl ?_
                refine go_iloadN e6_8 rfl ?_
                refine go_icgeY e6_9 (tg := 67) (by decide) (by decide) ?_
                refine go_return e6_67 rfl (by decide) (by decide) ?_
                exact ⟨rfl, x3, x0, x2, x1, rfl, by omega, by omega, by omega, ((((Pm.refl).s1).s2).s1).s0⟩
        · intro u2_0
          refine go_aloadN e6_46 rfl rfl ?_
          refine go_iloadN e6_47 rfl ?_
          refine go_iconst e6_48 (x := 1) rfl ?_
          refine go_iadd e6_49 ?_
          refine go_aloadN e6_50 rfl rfl ?_
          refine go_iloadN e6_51 rfl ?_
          refine go_iaload e6_52 (get_eq hq) (k := 0) (by decide) rfl ?_
          refine go_iastore e6_53 (get_eq hq) (k := 1) (by decide) (Nat.le_of_ble_eq_true rfl) ?_
          rw [List.set_set]
          simp only [List.set_cons_zero, List.set_cons_succ]
          refine go_goto e6_54 (tg := 30) (by decide) ?_
          refine go_iinc_3 e6_30 (z := (-1)) rfl ?_
          refine go_iloadN e6_33 rfl ?_
          refine go_iloadN e6_34 rfl ?_
          refine go_icltY e6_35 (tg := 57) (by decide) (by decide) ?_
          refine go_aloadN e6_57 rfl rfl ?_
          refine go_iloadN e6_58 rfl ?_
          refine go_iconst e6_59 (x := 1) rfl ?_
          refine go_iadd e6_60 ?_
          refine go_iload e6_61 rfl ?_
          refine go_iastore e6_63 (get_eq hq) (k := 0) (by decide) (Nat.le_of_ble_eq_true rfl) ?_
          rw [List.set_set]
          simp only [List.set_cons_zero, List.set_cons_succ]
          refine go_goto e6_64 (tg := 3) (by decide) ?_
          refine go_iinc_4 e6_3 (z := 1) rfl ?_
          refine go_iload e6_6 rfl ?_
          refine go_iloadN e6_8 rfl ?_
          refine go_icgeN e6_9 (tg := 67) (by decide) (by decide) ?_
          refine go_aloadN e6_12 rfl rfl ?_
          refine go_iload e6_13 rfl ?_
          refine go_dup e6_15 rfl ?_
          refine go_istore_3 e6_16 rfl ?_
          refine go_iaload e6_17 (get_eq hq) (k := 3) (by decide) rfl ?_
          refine go_istore_5 e6_18 rfl ?_
          refine go_iload e6_20 rfl ?_
          refine go_aloadN e6_22 rfl rfl ?_
          refine go_iloadN e6_23 rfl ?_
          refine go_iconst e6_24 (x := 1) rfl ?_
          refine go_isub e6_25 ?_
          refine go_iaload e6_26 (get_eq hq) (k := 2) (by decide) rfl ?_
          refine go_icge e6_27 (tg := 64) (by decide) ?_ ?_
          · intro u3_2
            refine go_goto e6_64 (tg := 3) (by decide) ?_
            refine go_iinc_4 e6_3 (z := 1) rfl ?_
            refine go_iload e6_6 rfl ?_
            refine go_iloadN e6_8 rfl ?_
            refine go_icgeY e6_9 (tg := 67) (by decide) (by decide) ?_
            refine go_return e6_67 rfl (by decide) (by decide) ?_
            exact ⟨rfl, x2, x0, x1, x3, rfl, by omega, by omega, by omega, ((Pm.refl).s1).s0⟩
          · intro u3_2
            refine go_iinc_3 e6_30 (z := (-1)) rfl ?_
            refine go_iloadN e6_33 rfl ?_
            refine go_iloadN e6_34 rfl ?_
            refine go_icltN e6_35 (tg := 57) (by decide) (by decide) ?_
            refine go_iload e6_38 rfl ?_
            refine go_aloadN e6_40 rfl rfl ?_
            refine go_iloadN e6_41 rfl ?_
            refine go_iaload e6_42 (get_eq hq) (k := 2) (by decide) rfl ?_
            refine go_icgeN e6_43 (tg := 57) (by decide) u3_2 ?_
            refine go_aloadN e6_46 rfl rfl ?_
            refine go_iloadN e6_47 rfl ?_
            refine go_iconst e6_48 (x := 1) rfl ?_
            refine go_iadd e6_49 ?_
            refine go_aloadN e6_50 rfl rfl ?_
            refine go_iloadN e6_51 rfl ?_
            refine go_iaload e6_52 (get_eq hq) (k := 2) (by decide) rfl ?_
            refine go_iastore e6_53 (get_eq hq) (k := 3) (by decide) (Nat.le_of_ble_eq_true rfl) ?_
            rw [List.set_set]
            simp only [List.set_cons_zero, List.set_cons_succ]
            refine go_goto e6_54 (tg := 30) (by decide) ?_
            refine go_iinc_3 e6_30 (z := (-1)) rfl ?_
            refine go_iloadN e6_33 rfl ?_
            refine go_iloadN e6_34 rfl ?_
            refine go_icltN e6_35 (tg := 57) (by decide) (by decide) ?_
            refine go_iload e6_38 rfl ?_
            refine go_aloadN e6_40 rfl rfl ?_
            refine go_iloadN e6_41 rfl ?_
            refine go_iaload e6_42 (get_eq hq) (k := 1) (by decide) rfl ?_
            refine go_icge e6_43 (tg := 57) (by decide) ?_ ?_
            · intro u3_1
              refine go_aloadN e6_57 rfl rfl ?_
              refine go_iloadN e6_58 rfl ?_
              refine go_iconst e6_59 (x := 1) rfl ?_
              refine go_iadd e6_60 ?_
              refine go_iload e6_61 rfl ?_
              refine go_iastore e6_63 (get_eq hq) (k := 2) (by decide) (Nat.le_of_ble_eq_true rfl) ?_
              rw [List.set_set]
              simp only [List.set_cons_zero, List.set_cons_succ]
              refine go_goto e6_64 (tg := 3) (by decide) ?_
              refine go_iinc_4 e6_3 (z := 1) rfl ?_
              refine go_iload e6_6 rfl ?_
              refine go_iloadN e6_8 rfl ?_
              refine go_icgeY e6_9 (tg := 67) (by decide) (by decide) ?_
              refine go_return e6_67 rfl (by decide) (by decide) ?_
              exact ⟨rfl, x2, x0, x3, x1, rfl, by omega, by omega, by omega, (((Pm.refl).s1).s0).s2⟩
            · intro u3_1
              refine go_aloadN e6_46 rfl rfl ?_
              refine go_iloadN e6_47 rfl ?_
              refine go_iconst e6_48 (x := 1) rfl ?_
              refine go_iadd e6_49 ?_
              refine go_aloadN e6_50 rfl rfl ?_
              refine go_iloadN e6_51 rfl ?_
              refine go_iaload e6_52 (get_eq hq) (k := 1) (by decide) rfl ?_
              refine go_iastore e6_53 (get_eq hq) (k := 2) (by decide) (Nat.le_of_ble_eq_true rfl) ?_
              rw [List.set_set]
              simp only [List.set_cons_zero, List.set_cons_succ]
              refine go_goto e6_54 (tg := 30) (by decide) ?_
              refine go_iinc_3 e6_30 (z := (-1)) rfl ?_
              refine go_iloadN e6_33 rfl ?_
              refine go_iloadN e6_34 rfl ?_
              refine go_icltN e6_35 (tg := 57) (by decide) (by decide) ?_
              refine go_iload e6_38 rfl ?_
              refine go_aloadN e6_40 rfl rfl ?_
              refine go_iloadN e6_41 rfl ?_
              refine go_iaload e6_42 (get_eq hq) (k := 0) (by decide) rfl ?_
              refine go_icge e6_43 (tg := 57) (by decide) ?_ ?_
              · intro u3_0
                refine go_aloadN e6_57 rfl rfl ?_
                refine go_iloadN e6_58 rfl ?_
                refine go_iconst e6_59 (x := 1) rfl ?_
                refine go_iadd e6_60 ?_
                refine go_iload e6_61 rfl ?_
                refine go_iastore e6_63 (get_eq hq) (k := 1) (by decide) (Nat.le_of_ble_eq_true rfl) ?_
                rw [List.set_set]
                simp only [List.set_cons_zero, List.set_cons_succ]
                refine go_goto e6_64 (tg := 3) (by decide) ?_
                refine go_iinc_4 e6_3 (z := 1) rfl ?_
                refine go_iload e6_6 rfl ?_
                refine go_iloadN e6_8 rfl ?_
                refine go_icgeY e6_9 (tg := 67) (by decide) (by decide) ?_
                refine go_return e6_67 rfl (by decide) (by decide) ?_
                exact ⟨rfl, x2, x3, x0, x1, rfl, by omega, by omega, by omega, ((((Pm.refl).s1).s0).s2).s1⟩
              · intro u3_0
                refine go_aloadN e6_46 rfl rfl ?_
                refine go_iloadN e6_47 rfl ?_
                refine go_iconst e6_48 (x := 1) rfl ?_
                refine go_iadd e6_49 ?_
                refine go_aloadN e6_50 rfl rfl ?_
                refine go_iloadN e6_51 rfl ?_
                refine go_iaload e6_52 (get_eq hq) (k := 0) (by decide) rfl ?_
                refine go_iastore e6_53 (get_eq hq) (k := 1) (by decide) (Nat.le_of_ble_eq_true rfl) ?_
                rw [List.set_set]
                simp only [List.set_cons_zero, List.set_cons_succ]
                refine go_goto e6_54 (tg := 30) (by decide) ?_
                refine go_iinc_3 e6_30 (z := (-1)) rfl ?_
                refine go_iloadN e6_33 rfl ?_
                refine go_iloadN e6_34 rfl ?_
                refine go_icltY e6_35 (tg := 57) (by decide) (by decide) ?_
                refine go_aloadN e6_57 rfl rfl ?_
                refine go_iloadN e6_58 rfl ?_
                refine go_iconst e6_59 (x := 1) rfl ?_
                refine go_iadd e6_60 ?_
                refine go_iload e6_61 rfl ?_
                refine go_iastore e6_63 (get_eq hq) (k := 0) (by decide) (Nat.le_of_ble_eq_true rfl) ?_
                rw [List.set_set]
                simp only [List.set_cons_zero, List.set_cons_succ]
                refine go_goto e6_64 (tg := 3) (by decide) ?_
                refine go_iinc_4 e6_3 (z := 1) rfl ?_
                refine go_iload e6_6 rfl ?_
                refine go_iloadN e6_8 rfl ?_
                refine go_icgeY e6_9 (tg := 67) (by decide) (by decide) ?_
                refine go_return e6_67 rfl (by decide) (by decide) ?_
                exact ⟨rfl, x3, x2, x0, x1, rfl, by omega, by omega, by omega, (((((Pm.refl).s1).s0).s2).s1).s0⟩
    · intro u1_0
      refine go_iinc_3 e6_30 (z := (-1)) rfl ?_
      refine go_iloadN e6_33 rfl ?_
      refine go_iloadN e6_34 rfl ?_
      refine go_icltN e6_35 (tg := 57) (by decide) (by decide) ?_
      refine go_iload e6_38 rfl ?_
      refine go_aloadN e6_40 rfl rfl ?_
      refine go_iloadN e6_41 rfl ?_
      refine go_iaload e6_42 (get_eq hq) (k := 0) (by decide) rfl ?_
      refine go_icgeN e6_43 (tg := 57) (by decide) u1_0 ?_
      refine go_aloadN e6_46 rfl rfl ?_
      refine go_iloadN e6_47 rfl ?_
      refine go_iconst e6_48 (x := 1) rfl ?_
      refine go_iadd e6_49 ?_
      refine go_aloadN e6_50 rfl rfl ?_
      refine go_iloadN e6_51 rfl ?_
      refine go_iaload e6_52 (get_eq hq) (k := 0) (by decide) rfl ?_
      refine go_iastore e6_53 (get_eq hq) (k := 1) (by decide) (Nat.le_of_ble_eq_true rfl) ?_
      rw [List.set_set]
      simp only [List.set_cons_zero, List.set_cons_succ]
      refine go_goto e6_54 (tg := 30) (by decide) ?_
      refine go_iinc_3 e6_30 (z := (-1)) rfl ?_
      refine go_iloadN e6_33 rfl ?_
      refine go_iloadN e6_34 rfl ?_
      refine go_icltY e6_35 (tg := 57) (by decide) (by decide) ?_
      refine go_aloadN e6_57 rfl rfl ?_
      refine go_iloadN e6_58 rfl ?_
      refine go_iconst e6_59 (x := 1) rfl ?_
      refine go_iadd e6_60 ?_
      refine go_iload e6_61 rfl ?_
      refine go_iastore e6_63 (get_eq hq) (k := 0) (by decide) (Nat.le_of_ble_eq_true rfl) ?_
      rw [List.set_set]
      simp only [List.set_cons_zero, List.set_cons_succ]
      refine go_goto e6_64 (tg := 3) (by decide) ?_
      refine go_iinc_4 e6_3 (z := 1) rfl ?_
      refine go_iload e6_6 rfl ?_
      refine go_iloadN e6_8 rfl ?_
      refine go_icgeN e6_9 (tg := 67) (by decide) (by decide) ?_
      refine go_aloadN e6_12 rfl rfl ?_
      refine go_iload e6_13 rfl ?_
      refine go_dup e6_15 rfl ?_
      refine go_istore_3 e6_16 rfl ?_
      refine go_iaload e6_17 (get_eq hq) (k := 2) (by decide) rfl ?_
      refine go_istore_5 e6_18 rfl ?_
      refine go_iload e6_20 rfl ?_
      refine go_aloadN e6_22 rfl rfl ?_
      refine go_iloadN e6_23 rfl ?_
      refine go_iconst e6_24 (x := 1) rfl ?_
      refine go_isub e6_25 ?_
      refine go_iaload e6_26 (get_eq hq) (k := 1) (by decide) rfl ?_
      refine go_icge e6_27 (tg := 64) (by decide) ?_ ?_
      · intro u2_1
        refine go_goto e6_64 (tg := 3) (by decide) ?_
        refine go_iinc_4 e6_3 (z := 1) rfl ?_
        refine go_iload e6_6 rfl ?_
        refine go_iloadN e6_8 rfl ?_
        refine go_icgeN e6_9 (tg := 67) (by decide) (by decide) ?_
        refine go_aloadN e6_12 rfl rfl ?_
        refine go_iload e6_13 rfl ?_
        refine go_dup e6_15 rfl ?_
        refine go_istore_3 e6_16 rfl ?_
        refine go_iaload e6_17 (get_eq hq) (k := 3) (by decide) rfl ?_
        refine go_istore_5 e6_18 rfl ?_
        refine go_iload e6_20 rfl ?_
        refine go_aloadN e6_22 rfl rfl ?_
        refine go_iloadN e6_23 rfl ?_
        refine go_iconst e6_24 (x := 1) rfl ?_
        refine go_isub e6_25 ?_
        refine go_iaload e6_26 (get_eq hq) (k := 2) (by decide) rfl ?_
        refine go_icge e6_27 (tg := 64) (by decide) ?_ ?_
        · intro u3_2
          refine go_goto e6_64 (tg := 3) (by decide) ?_
          refine go_iinc_4 e6_3 (z := 1) rfl ?_
          refine go_iload e6_6 rfl ?_
          refine go_iloadN e6_8 rfl ?_
          refine go_icgeY e6_9 (tg := 67) (by decide) (by decide) ?_
          refine go_return e6_67 rfl (by decide) (by decide) ?_
          exact ⟨rfl, x1, x0, x2, x3, rfl, by omega, by omega, by omega, (Pm.refl).s0⟩
        · intro u3_2
          refine go_iinc_3 e6_30 (z := (-1)) rfl ?_
          refine go_iloadN e6_33 rfl ?_
          refine go_iloadN e6_34 rfl ?_
          refine go_icltN e6_35 (tg := 57) (by decide) (by decide) ?_
          refine go_iload e6_38 rfl ?_
          refine go_aloadN e6_40 rfl rfl ?_
          refine go_iloadN e6_41 rfl ?_
          refine go_iaload e6_42 (get_eq hq) (k := 2) (by decide) rfl ?_
          refine go_icgeN e6_43 (tg := 57) (by decide) u3_2 ?_
          refine go_aloadN e6_46 rfl rfl ?_
          refine go_iloadN e6_47 rfl ?_
          refine go_iconst e6_48 (x := 1) rfl ?_
          refine go_iadd e6_49 ?_
          refine go_aloadN e6_50 rfl rfl ?_
          refine go_iloadN e6_51 rfl ?_
          refine go_iaload e6_52 (get_eq hq) (k := 2) (by decide) rfl ?_
          refine go_iastore e6_53 (get_eq hq) (k := 3) (by decide) (Nat.le_of_ble_eq_true rfl) ?_
          rw [List.set_set]
          simp only [List.set_cons_zero, List.set_cons_succ]
          refine go_goto e6_54 (tg := 30) (by decide) ?_
          refine go_iinc_3 e6_30 (z := (-1)) rfl ?_
          refine go_iloadN e6_33 rfl ?_
          refine go_iloadN e6_34 rfl ?_
          refine go_icltN e6_35 (tg := 57) (by decide) (by decide) ?_
          refine go_iload e6_38 rfl ?_
          refine go_aloadN e6_40 rfl rfl ?_
          refine go_iloadN e6_41 rfl ?_
          refine go_iaload e6_42 (get_eq hq) (k := 1) (by decide) rfl ?_
          refine go_icge e6_43 (tg := 57) (by decide) ?_ ?_
          · intro u3_1
            refine go_aloadN e6_57 rfl rfl ?_
            refine go_iloadN e6_58 rfl ?_
            refine go_iconst e6_59 (x := 1) rfl ?_
            refine go_iadd e6_60 ?_
            refine go_iload e6_61 rfl ?_
            refine go_iastore e6_63 (get_eq hq) (k := 2) (by decide) (Nat.le_of_ble_eq_true rfl) ?_
            rw [List.set_set]
            simp only [List.set_cons_zero, List.set_cons_succ]
            refine go_goto e6_64 (tg := 3) (by decide) ?_
            refine go_iinc_4 e6_3 (z := 1) rfl ?_
            refine go_iload e6_6 rfl ?_
            refine go_iloadN e6_8 rfl ?_
            refine go_icgeY e6_9 (tg := 67) (by decide) (by decide) ?_
            refine go_return e6_67 rfl (by decide) (by decide) ?_
            exact ⟨rfl, x1, x0, x3, x2, rfl, by omega, by omega, by omega, ((Pm.refl).s0).s2⟩
          · intro u3_1
            refine go_aloadN e6_46 rfl rfl ?_
            refine go_iloadN e6_47 rfl ?_
            refine go_iconst e6_48 (x := 1) rfl ?_
            refine go_iadd e6_49 ?_
            refine go_aloadN e6_50 rfl rfl ?_
            refine go_iloadN e6_51 rfl ?_
            refine go_iaload e6_52 (get_eq hq) (k := 1) (by decide) rfl ?_
            refine go_iastore e6_53 (get_eq hq) (k := 2) (by decide) (Nat.le_of_ble_eq_true rfl) ?_
            rw [List.set_set]
            simp only [List.set_cons_zero, List.set_cons_succ]
            refine go_goto e6_54 (tg := 30) (by decide) ?_
            refine go_iinc_3 e6_30 (z := (-1)) rfl ?_
            refine go_iloadN e6_33 rfl ?_
            refine go_iloadN e6_34 rfl ?_
            refine go_icltN e6_35 (tg := 57) (by decide) (by decide) ?_
            refine go_iload e6_38 rfl ?_
            refine go_aloadN e6_40 rfl rfl ?_
            refine go_iloadN e6_41 rfl ?_
            refine go_iaload e6_42 (get_eq hq) (k := 0) (by decide) rfl ?_
            refine go_icge e6_43 (tg := 57) (by decide) ?_ ?_
            · intro u3_0
              refine go_aloadN e6_57 rfl rfl ?_
              refine go_iloadN e6_58 rfl ?_
              refine go_iconst e6_59 (x := 1) rfl ?_
              refine go_iadd e6_60 ?_
              refine go_iload e6_61 rfl ?_
              refine go_iastore e6_63 (get_eq hq) (k := 1) (by decide) (Nat.le_of_ble_eq_true rfl) ?_
              rw [List.set_set]
              simp only [List.set_cons_zero, List.set_cons_succ]
              refine go_goto e6_64 (tg := 3) (by decide) ?_
              refine go_iinc_4 e6_3 (z := 1) rfl ?_
              refine go_iload e6_6 rfl ?_
              refine go_iloadN e6_8 rfl ?_
              refine go_icgeY e6_9 (tg := 67) (by decide) (by decide) ?_
              refine go_return e6_67 rfl (by decide) (by decide) ?_
              exact ⟨rfl, x1, x3, x0, x2, rfl, by omega, by omega, by omega, (((Pm.refl).s0).s2).s1⟩
            · intro u3_0
              refine go_aloadN e6_46 rfl rfl ?_
              refine go_iloadN e6_47 rfl ?_
              refine go_iconst e6_48 (x := 1) rfl ?_
              refine go_iadd e6_49 ?_
              refine go_aloadN e6_50 rfl rfl ?_
              refine go_iloadN e6_51 rfl ?_
              refine go_iaload e6_52 (get_eq hq) (k := 0) (by decide) rfl ?_
              refine go_iastore e6_53 (get_eq hq) (k := 1) (by decide) (Nat.le_of_ble_eq_true rfl) ?_
              rw [List.set_set]
              simp only [List.set_cons_zero, List.set_cons_succ]
              refine go_goto e6_54 (tg := 30) (by decide) ?_
              refine go_iinc_3 e6_30 (z := (-1)) rfl ?_
              refine go_iloadN e6_33 rfl ?_
              refine go_iloadN e6_34 rfl ?_
              refine go_icltY e6_35 (tg := 57) (by decide) (by decide) ?_
              refine go_aloadN e6_57 rfl rfl ?_
              refine go_iloadN e6_58 rfl ?_
              refine go_iconst e6_59 (x := 1) rfl ?_
              refine go_iadd e6_60 ?_
              refine go_iload e6_61 rfl ?_
              refine go_iastore e6_63 (get_eq hq) (k := 0) (by decide) (Nat.le_of_ble_eq_true rfl) ?_
              rw [List.set_set]
              simp only [List.set_cons_zero, List.set_cons_succ]
              refine go_goto e6_64 (tg := 3) (by decide) ?_
              refine go_iinc_4 e6_3 (z := 1) rfl ?_
              refine go_iload e6_6 rfl ?_
              refine go_iloadN e6_8 rfl ?_
              refine go_icgeY e6_9 (tg := 67) (by decide) (by decide) ?_
              refine go_return e6_67 rfl (by decide) (by decide) ?_
              exact ⟨rfl, x3, x1, x0, x2, rfl, by omega, by omega, by omega, ((((Pm.refl).s0).s2).s1).s0⟩
      · intro u2_1
        refine go_iinc_3 e6_30 (z := (-1)) rfl ?_
        refine go_iloadN e6_33 rfl ?_
        refine go_iloadN e6_34 rfl ?_
        refine go_icltN e6_35 (tg := 57) (by decide) (by decide) ?_
        refine go_iload e6_38 rfl ?_
        refine go_aloadN e6_40 rfl rfl ?_
        refine go_iloadN e6_41 rfl ?_
        refine go_iaload e6_42 (get_eq hq) (k := 1) (by decide) rfl ?_
        refine go_icgeN e6_43 (tg := 57) (by decide) u2_1 ?_
        refine go_aloadN e6_46 rfl rfl ?_
        refine go_iloadN e6_47 rfl ?_
        refine go_iconst e6_48 (x := 1) rfl ?_
        refine go_iadd e6_49 ?_
        refine go_aloadN e6_50 rfl rfl ?_
        refine go_iloadN e6_51 rfl ?_
        refine go_iaload e6_52 (get_eq hq) (k := 1) (by decide) rfl ?_
        refine go_iastore e6_53 (get_eq hq) (k := 2) (by decide) (Nat.le_of_ble_eq_true rfl) ?_
        rw [List.set_set]
        simp only [List.set_cons_zero, List.set_cons_succ]
        refine go_goto e6_54 (tg := 30) (by decide) ?_
        refine go_iinc_3 e6_30 (z := (-1)) rfl ?_
        refine go_iloadN e6_33 rfl ?_
        refine go_iloadN e6_34 rfl ?_
        refine go_icltN e6_35 (tg := 57) (by decide) (by decide) ?_
        refine go_iload e6_38 rfl ?_
        refine go_aloadN e6_40 rfl rfl ?_
        refine go_iloadN e6_41 rfl ?_
        refine go_iaload e6_42 (get_eq hq) (k := 0) (by decide) rfl ?_
        refine go_icge e6_43 (tg := 57) (by decide) ?_ ?_
        · intro u2_0
          refine go_aloadN e6_57 rfl rfl ?_
          refine go_iloadN e6_58 rfl ?_
          refine go_iconst e6_59 (x := 1) rfl ?_
          refine go_iadd e6_60 ?_
          refine go_iload e6_61 rfl ?_
          refine go_iastore e6_63 (get_eq hq) (k := 1) (by decide) (Nat.le_of_ble_eq_true rfl) ?_
          rw [List.set_set]
          simp only [List.set_cons_zero, List.set_cons_succ]
          refine go_goto e6_64 (tg := 3) (by decide) ?_
          refine go_iinc_4 e6_3 (z := 1) rfl ?_
          refine go_iload e6_6 rfl ?_
          refine go_iloadN e6_8 rfl ?_
          refine go_icgeN e6_9 (tg := 67) (by decide) (by decide) ?_
          refine go_aloadN e6_12 rfl rfl ?_
          refine go_iload e6_13 rfl ?_
          refine go_dup e6_15 rfl ?_
          refine go_istore_3 e6_16 rfl ?_
          refine go_iaload e6_17 (get_eq hq) (k := 3) (by decide) rfl ?_
          refine go_istore_5 e6_18 rfl ?_
          refine go_iload e6_20 rfl ?_
          refine go_aloadN e6_22 rfl rfl ?_
          refine go_iloadN e6_23 rfl ?_
          refine go_iconst e6_24 (x := 1) rfl ?_
          refine go_isub e6_25 ?_
          refine go_iaload e6_26 (get_eq hq) (k := 2) (by decide) rfl ?_
          refine go_icge e6_27 (tg := 64) (by decide) ?_ ?_
          · intro u3_2
            refine go_goto e6_64 (tg := 3) (by decide) ?_
            refine go_iinc_4 e6_3 (z := 1) rfl ?_
            refine go_iload e6_6 rfl ?_
            refine go_iloadN e6_8 rfl ?_
            refine go_icgeY e6_9 (tg := 67) (by decide) (by decide) ?_
            refine go_return e6_67 rfl (by decide) (by decide) ?_
            exact ⟨rfl, x1, x2, x0, x3, rfl, by omega, by omega, by omega, ((Pm.refl).s0).s1⟩
          · intro u3_2
            refine go_iinc_3 e6_30 (z := (-1)) rfl ?_
            refine go_iloadN e6_33 rfl ?_
            refine go_iloadN e6_34 rfl ?_
            refine go_icltN e6_35 (tg := 57) (by decide) (by decide) ?_
            refine go_iload e6_38 rfl ?_
            refine go_aloadN e6_40 rfl rfl ?_
            refine go_iloadN e6_41 rfl ?_
            refine go_iaload e6_42 (get_eq hq) (k := 2) (by decide) rfl ?_
            refine go_icgeN e6_43 (tg := 57) (by decide) u3_2 ?_
            refine go_aloadN e6_46 rfl rfl ?_
            refine go_iloadN e6_47 rfl ?_
            refine go_iconst e6_48 (x := 1) rfl ?_
            refine go_iadd e6_49 ?_
            refine go_aloadN e6_50 rfl rfl ?_
            refine go_iloadN e6_51 rfl ?_
            refine go_iaload e6_52 (get_eq hq) (k := 2) (by decide) rfl ?_
            refine go_iastore e6_53 (get_eq hq) (k := 3) (by decide) (Nat.le_of_ble_eq_true rfl) ?_
            rw [List.set_set]
            simp only [List.set_cons_zero, List.set_cons_succ]
            refine go_goto e6_54 (tg := 30) (by decide) ?_
            refine go_iinc_3 e6_30 (z := (-1)) rfl ?_
            refine go_iloadN e6_33 rfl ?_
            refine go_iloadN e6_34 rfl ?_
            refine go_icltN e6_35 (tg := 57) (by decide) (by decide) ?_
            refine go_iload e6_38 rfl ?_
            refine go_aloadN e6_40 rfl rfl ?_
            refine go_iloadN e6_41 rfl ?_
            refine go_iaload e6_42 (get_eq hq) (k := 1) (by decide) rfl ?_
            refine go_icge e6_43 (tg := 57) (by decide) ?_ ?_
            · intro u3_1
              refine go_aloadN e6_57 rfl rfl ?_
              refine go_iloadN e6_58 rfl ?_
              refine go_iconst e6_59 (x := 1) rfl ?_
              refine go_iadd e6_60 ?_
              refine go_iload e6_61 rfl ?_
              refine go_iastore e6_63 (get_eq hq) (k := 2) (by decide) (Nat.le_of_ble_eq_true rfl) ?_
              rw [List.set_set]
              simp only [List.set_cons_zero, List.set_cons_succ]
              refine go_goto e6_64 (tg := 3) (by decide) ?_
              refine go_iinc_4 e6_3 (z := 1) rfl ?_
              refine go_iload e6_6 rfl ?_
              refine go_iloadN e6_8 rfl ?_
              refine go_icgeY e6_9 (tg := 67) (by decide) (by decide) ?_
              refine go_return e6_67 rfl (by decide) (by decide) ?_
              exact ⟨rfl, x1, x2, x3, x0, rfl, by omega, by omega, by omega, (((Pm.refl).s0).s1).s2⟩
            · intro u3_1
              refine go_aloadN e6_46 rfl rfl ?_
              refine go_iloadN e6_47 rfl ?_
              refine go_iconst e6_48 (x := 1) rfl ?_
              refine go_iadd e6_49 ?_
              refine go_aloadN e6_50 rfl rfl ?_
              refine go_iloadN e6_51 rfl ?_
              refine go_iaload e6_52 (get_eq hq) (k := 1) (by decide) rfl ?_
              refine go_iastore e6_53 (get_eq hq) (k := 2) (by decide) (Nat.le_of_ble_eq_true rfl) ?_
              rw [List.set_set]
              simp only [List.set_cons_zero, List.set_cons_succ]
              refine go_goto e6_54 (tg := 30) (by decide) ?_
              refine go_iinc_3 e6_30 (z := (-1)) rfl ?_
              refine go_iloadN e6_33 rfl ?_
              refine go_iloadN e6_34 rfl ?_
              refine go_icltN e6_35 (tg := 57) (by decide) (by decide) ?_
              refine go_iload e6_38 rfl ?_
              refine go_aloadN e6_40 rfl rfl ?_
              refine go_iloadN e6_41 rfl ?_
              refine go_iaload e6_42 (get_eq hq) (k := 0) (by decide) rfl ?_
              refine go_icge e6_43 (tg := 57) (by decide) ?_ ?_
              · intro u3_0
                refine go_aloadN e6_57 rfl rfl ?_
                refine go_iloadN e6_58 rfl ?_
                refine go_iconst e6_59 (x := 1) rfl ?_
                refine go_iadd e6_60 ?_
                refine go_iload e6_61 rfl ?_
                refine go_iastore e6_63 (get_eq hq) (k := 1) (by decide) (Nat.le_of_ble_eq_true rfl) ?_
                rw [List.set_set]
                simp only [List.set_cons_zero, List.set_cons_succ]
                refine go_goto e6_64 (tg := 3) (by decide) ?_
                refine go_iinc_4 e6_3 (z := 1) rfl ?_
                refine go_iload e6_6 rfl ?_
                refine go_iloadN e6_8 rfl ?_
                refine go_icgeY e6_9 (tg := 67) (by decide) (by decide) ?_
                refine go_return e6_67 rfl (by decide) (by decide) ?_
                exact ⟨rfl, x1, x3, x2, x0, rfl, by omega, by omega, by omega, ((((Pm.refl).s0).s1).s2).s1⟩
              · intro u3_0
                refine go_aloadN e6_46 rfl rfl ?_
                refine go_iloadN e6_47 rfl ?_
                refine go_iconst e6_48 (x := 1) rfl ?_
                refine go_iadd e6_49 ?_
                refine go_aloadN e6_50 rfl rfl ?_
                refine go_iloadN e6_51 rfl ?_
                refine go_iaload e6_52 (get_eq hq) (k := 0) (by decide) rfl ?_
                refine go_iastore e6_53 (get_eq hq) (k := 1) (by decide) (Nat.le_of_ble_eq_true rfl) ?_
                rw [List.set_set]
                simp only [List.set_cons_zero, List.set_cons_succ]
                refine go_goto e6_54 (tg := 30) (by decide) ?_
                refine go_iinc_3 e6_30 (z := (-1)) rfl ?_
                refine go_iloadN e6_33 rfl ?_
                refine go_iloadN e6_34 rfl ?_
                refine go_icltY e6_35 (tg := 57) (by decide) (by decide) ?_
                refine go_aloadN e6_57 rfl rfl ?_
                refine go_iloadN e6_58 rfl ?_
                refine go_iconst e6_59 (x := 1) rfl ?_
                refine go_iadd e6_60 ?_
                refine go_iload e6_61 rfl ?_
                refine go_iastore e6_63 (get_eq hq) (k := 0) (by decide) (Nat.le_of_ble_eq_true rfl) ?_
                rw [List.set_set]
                simp only [List.set_cons_zero, List.set_cons_succ]
                refine go_goto e6_64 (tg := 3) (by decide) ?_
                refine go_iinc_4 e6_3 (z := 1) rfl ?_
                refine go_iload e6_6 rfl ?_
                refine go_iloadN e6_8 rfl ?_
                refine go_icgeY e6_9 (tg := 67) (by decide) (by decide) ?_
                refine go_return e6_67 rfl (by decide) (by decide) ?_
                exact ⟨rfl, x3, x1, x2, x0, rfl, by omega, by omega, by omega, (((((Pm.refl).s0).s1).s2).s1).s0⟩
        · intro u2_0
          refine go_aloadN e6_46 rfl rfl ?_
          refine go_iloadN e6_47 rfl ?_
          refine go_iconst e6_48 (x := 1) rfl ?_
          refine go_iadd e6_49 ?_
          refine go_aloadN e6_50 rfl rfl ?_
          refine go_iloadN e6_51 rfl ?_
          refine go_iaload e6_52 (get_eq hq) (k := 0) (by decide) rfl ?_
          refine go_iastore e6_53 (get_eq hq) (k := 1) (by decide) (Nat.le_of_ble_eq_true rfl) ?_
          rw [List.set_set]
          simp only [List.set_cons_zero, List.set_cons_succ]
          refine go_goto e6_54 (tg := 30) (by decide) ?_
          refine go_iinc_3 e6_30 (z := (-1)) rfl ?_
          refine go_iloadN e6_33 rfl ?_
          refine go_iloadN e6_34 rfl ?_
          refine go_icltY e6_35 (tg := 57) (by decide) (by decide) ?_
          refine go_aloadN e6_57 rfl rfl ?_
          refine go_iloadN e6_58 rfl ?_
          refine go_iconst e6_59 (x := 1) rfl ?_
          refine go_iadd e6_60 ?_
          refine go_iload e6_61 rfl ?_
          refine go_iastore e6_63 (get_eq hq) (k := 0) (by decide) (Nat.le_of_ble_eq_true rfl) ?_
          rw [List.set_set]
          simp only [List.set_cons_zero, List.set_cons_succ]
          refine go_goto e6_64 (tg := 3) (by decide) ?_
          refine go_iinc_4 e6_3 (z := 1) rfl ?_
          refine go_iload e6_6 rfl ?_
          refine go_iloadN e6_8 rfl ?_
          refine go_icgeN e6_9 (tg := 67) (by decide) (by decide) ?_
          refine go_aloadN e6_12 rfl rfl ?_
          refine go_iload e6_13 rfl ?_
          refine go_dup e6_15 rfl ?_
          refine go_istore_3 e6_16 rfl ?_
          refine go_iaload e6_17 (get_eq hq) (k := 3) (by decide) rfl ?_
          refine go_istore_5 e6_18 rfl ?_
          refine go_iload e6_20 rfl ?_
          refine go_aloadN e6_22 rfl rfl ?_
          refine go_iloadN e6_23 rfl ?_
          refine go_iconst e6_24 (x := 1) rfl ?_
          refine go_isub e6_25 ?_
          refine go_iaload e6_26 (get_eq hq) (k := 2) (by decide) rfl ?_
          refine go_icge e6_27 (tg := 64) (by decide) ?_ ?_
          · intro u3_2
            refine go_goto e6_64 (tg := 3) (by decide) ?_
            refine go_iinc_4 e6_3 (z := 1) rfl ?_
            refine go_iload e6_6 rfl ?_
            refine go_iloadN e6_8 rfl ?_
            refine go_icgeY e6_9 (tg := 67) (by decide) (by decide) ?_
            refine go_return e6_67 rfl (by decide) (by decide) ?_
            exact ⟨rfl, x2, x1, x0, x3, rfl, by omega, by omega, by omega, (((Pm.refl).s0).s1).s0⟩
          · intro u3_2
            refine go_iinc_3 e6_30 (z := (-1)) rfl ?_
            refine go_iloadN e6_33 rfl ?_
            refine go_iloadN e6_34 rfl ?_
            refine go_icltN e6_35 (tg := 57) (by decide) (by decide) ?_
            refine go_iload e6_38 rfl ?_
            refine go_aloadN e6_40 rfl rfl ?_
            refine go_iloadN e6_41 rfl ?_
            refine go_iaload e6_42 (get_eq hq) (k := 2) (by decide) rfl ?_
            refine go_icgeN e6_43 (tg := 57) (by decide) u3_2 ?_
            refine go_aloadN e6_46 rfl rfl ?_
            refine go_iloadN e6_47 rfl ?_
            refine go_iconst e6_48 (x := 1) rfl ?_
            refine go_iadd e6_49 ?_
            refine go_aloadN e6_50 rfl rfl ?_
            refine go_iloadN e6_51 rfl ?_
            refine go_iaload e6_52 (get_eq hq) (k := 2) (by decide) rfl ?_
            refine go_iastore e6_53 (get_eq hq) (k := 3) (by decide) (Nat.le_of_ble_eq_true rfl) ?_
            rw [List.set_set]
            simp only [List.set_cons_zero, List.set_cons_succ]
            refine go_goto e6_54 (tg := 30) (by decide) ?_
            refine go_iinc_3 e6_30 (z := (-1)) rfl ?_
            refine go_iloadN e6_33 rfl ?_
            refine go_iloadN e6_34 rfl ?_
            refine go_icltN e6_35 (tg := 57) (by decide) (by decide) ?_
            refine go_iload e6_38 rfl ?_
            refine go_aloadN e6_40 rfl rfl ?_
            refine go_iloadN e6_41 rfl ?_
            refine go_iaload e6_42 (get_eq hq) (k := 1) (by decide) rfl ?_
            refine go_icge e6_43 (tg := 57) (by decide) ?_ ?_
            · intro u3_1
              refine go_aloadN e6_57 rfl rfl ?_
              refine go_iloadN e6_58 rfl ?_
              refine go_iconst e6_59 (x := 1) rfl ?_
              refine go_iadd e6_60 ?_
              refine go_iload e6_61 rfl ?_
              refine go_iastore e6_63 (get_eq hq) (k := 2) (by decide) (Nat.le_of_ble_eq_true rfl) ?_
              rw [List.set_set]
              simp only [List.set_cons_zero, List.set_cons_succ]
              refine go_goto e6_64 (tg := 3) (by decide) ?_
              refine go_iinc_4 e6_3 (z := 1) rfl ?_
              refine go_iload e6_6 rfl ?_
              refine go_iloadN e6_8 rfl ?_
              refine go_icgeY e6_9 (tg := 67) (by decide) (by decide) ?_
              refine go_return e6_67 rfl (by decide) (by decide) ?_
              exact ⟨rfl, x2, x1, x3, x0, rfl, by omega, by omega, by omega, ((((Pm.refl).s0).s1).s0).s2⟩
            · intro u3_1
              refine go_aloadN e6_46 rfl rfl ?_
              refine go_iloadN e6_47 rfl ?_
              refine go_iconst e6_48 (x := 1) rfl ?_
              refine go_iadd e6_49 ?_
              refine go_aloadN e6_50 rfl rfl ?_
              refine go_iloadN e6_51 rfl ?_
              refine go_iaload e6_52 (get_eq hq) (k := 1) (by decide) rfl ?_
              refine go_iastore e6_53 (get_eq hq) (k := 2) (by decide) (Nat.le_of_ble_eq_true rfl) ?_
              rw [List.set_set]
              simp only [List.set_cons_zero, List.set_cons_succ]
              refine go_goto e6_54 (tg := 30) (by decide) ?_
              refine go_iinc_3 e6_30 (z := (-1)) rfl ?_
              refine go_iloadN e6_33 rfl ?_
              refine go_iloadN e6_34 rfl ?_
              refine go_icltN e6_35 (tg := 57) (by decide) (by decide) ?_
              refine go_iload e6_38 rfl ?_
              refine go_aloadN e6_40 rfl rfl ?_
              refine go_iloadN e6_41 rfl ?_
              refine go_iaload e6_42 (get_eq hq) (k := 0) (by decide) rfl ?_
              refine go_icge e6_43 (tg := 57) (by decide) ?_ ?_
              · intro u3_0
                refine go_aloadN e6_57 rfl rfl ?_
                refine go_iloadN e6_58 rfl ?_
                refine go_iconst e6_59 (x := 1) rfl ?_
                refine go_iadd e6_60 ?_
                refine go_iload e6_61 rfl ?_
                refine go_iastore e6_63 (get_eq hq) (k := 1) (by decide) (Nat.le_of_ble_eq_true rfl) ?_
                rw [List.set_set]
                simp only [List.set_cons_zero, List.set_cons_succ]
                refine go_goto e6_64 (tg := 3) (by decide) ?_
                refine go_iinc_4 e6_3 (z := 1) rfl ?_
                refine go_iload e6_6 rfl ?_
                refine go_iloadN e6_8 rfl ?_
                refine go_icgeY e6_9 (tg := 67) (by decide) (by decide) ?_
                refine go_return e6_67 rfl (by decide) (by decide) ?_
                exact ⟨rfl, x2, x3, x1, x0, rfl, by omega, by omega, by omega, (((((Pm.refl).s0).s1).s0).s2).s1⟩
              · intro u3_0
                refine go_aloadN e6_46 rfl rfl ?_
                refine go_iloadN e6_47 rfl ?_
                refine go_iconst e6_48 (x := 1) rfl ?_
                refine go_iadd e6_49 ?_
                refine go_aloadN e6_50 rfl rfl ?_
                refine go_iloadN e6_51 rfl ?_
                refine go_iaload e6_52 (get_eq hq) (k := 0) (by decide) rfl ?_
                refine go_iastore e6_53 (get_eq hq) (k := 1) (by decide) (Nat.le_of_ble_eq_true rfl) ?_
                rw [List.set_set]
                simp only [List.set_cons_zero, List.set_cons_succ]
                refine go_goto e6_54 (tg := 30) (by decide) ?_
                refine go_iinc_3 e6_30 (z := (-1)) rfl ?_
                refine go_iloadN e6_33 rfl ?_
                refine go_iloadN e6_34 rfl ?_
                refine go_icltY e6_35 (tg := 57) (by decide) (by decide) ?_
                refine go_aloadN e6_57 rfl rfl ?_
                refine go_iloadN e6_58 rfl ?_
                refine go_iconst e6_59 (x := 1) rfl ?_
                refine go_iadd e6_60 ?_
                refine go_iload e6_61 rfl ?_
                refine go_iastore e6_63 (get_eq hq) (k := 0) (by decide) (Nat.le_of_ble_eq_true rfl) ?_
                rw [List.set_set]
                simp only [List.set_cons_zero, List.set_cons_succ]
                refine go_goto e6_64 (tg := 3) (by decide) ?_
                refine go_iinc_4 e6_3 (z := 1) rfl ?_
                refine go_iload e6_6 rfl ?_
                refine go_iloadN e6_8 rfl ?_
                refine go_icgeY e6_9 (tg := 67) (by decide) (by decide) ?_
                refine go_return e6_67 rfl (by decide) (by decide) ?_
                exact ⟨rfl, x3, x2, x1, x0, rfl, by omega, by omega, by omega, ((((((Pm.refl).s0).s1).s0).s2).s1).s0⟩
  rw [set_same hq] at hS
  exact hS
set_option maxRecDepth 65536 in
set_option maxHeartbeats 4000000 in
theorem c_s5 {l : Launch} {Z : State} {a0 : Array Value} {b : Nat} (hw : ∀ d ∈ tables_1, d.before a0 Z = true) {H : List GCell} {q : Nat} {x0 x1 x2 x3 : Int32} (hq : H[q]? = some (ar .int [.int x0, .int x1, .int x2, .int x3])) :
    Met l Z a0 b (⟨"java/util/DualPivotQuicksort", "sort", "(Ljava/util/DualPivotQuicksort$Sorter;[IIII)V"⟩ : MethodName) jdk_2529_method_4_code 21 none ({ frames := 1, cells := 0, slots := 0, locals := 17 } : Room) [.null, .ref q, .int 0, .int 0, .int 4] H (fun v H' => v = none ∧ ∃ s0 s1 s2 s3 : Int32, H' = H.set q (ar .int [.int s0, .int s1, .int s2, .int s3]) ∧ s0.toInt ≤ s1.toInt ∧ s1.toInt ≤ s2.toInt ∧ s2.toInt ≤ s3.toInt ∧ Pm x0 x1 x2 x3 s0 s1 s2 s3) := by
  refine Met.of_go hw (plainFor_of_name pn_0) (L0 := [.val (.null), .val (.ref q), .val (.int 0), .val (.int 0), .val (.int 4), .unset, .unset, .unset, .unset, .unset, .unset, .unset, .unset, .unset, .unset, .unset, .unset, .unset, .unset, .unset, .unset]) rfl ?_
  intro p e s m args below meth c C
  refine go_iload e5_0 rfl ?_
  refine go_iconst e5_2 (x := 1) rfl ?_
  refine go_isub e5_3 ?_
  refine go_istore_5 e5_4 rfl ?_
  refine go_iload e5_6 rfl ?_
  refine go_iloadN e5_8 rfl ?_
  refine go_isub e5_9 ?_
  refine go_istore_6 e5_10 rfl ?_
  refine go_iload e5_12 rfl ?_
  refine go_bipush e5_14 (x := 65) rfl ?_
  refine go_iloadN e5_16 rfl ?_
  refine go_iadd e5_17 ?_
  refine go_icgeN e5_18 (tg := 46) (by decide) (by decide) ?_
  refine go_iloadN e5_21 rfl ?_
  refine go_iconst e5_22 (x := 1) rfl ?_
  refine go_iand e5_23 ?_
  refine go_ifleY e5_24 (tg := 46) (by decide) (by decide) ?_
  refine go_iload e5_46 rfl ?_
  refine go_bipush e5_48 (x := 44) rfl ?_
  refine go_icgeN e5_50 (tg := 61) (by decide) (by decide) ?_
  refine go_aloadN e5_53 rfl rfl ?_
  refine go_iloadN e5_54 rfl ?_
  refine go_iload e5_55 rfl ?_
  refine go_staticV_3 e5_57 (wd 30 rfl) (wd 31 rfl) (wd 32 rfl) (wd 25 rfl) hy_1 pd_2 rfl (c_ins hw hq) rfl 0 rfl (by decide) (by decide) (by decide) (by decide) ?_
  rintro _ hP
  refine go_return e5_60 rfl (by decide) (by decide) ?_
  exact ⟨rfl, hP⟩
set_option maxRecDepth 65536 in
set_option maxHeartbeats 4000000 in
theorem c_s4 {l : Launch} {Z : State} {a0 : Array Value} {b : Nat} (hw : ∀ d ∈ tables_1, d.before a0 Z = true) {H : List GCell} {q : Nat} {x0 x1 x2 x3 : Int32} (hq : H[q]? = some (ar .int [.int x0, .int x1, .int x2, .int x3])) :
    Met l Z a0 b (⟨"java/util/DualPivotQuicksort", "sort", "([IIII)V"⟩ : MethodName) jdk_2529_method_3_code 7 none ({ frames := 2, cells := 0, slots := 0, locals := 49 } : Room) [.ref q, .int 0, .int 0, .int 4] H (fun v H' => v = none ∧ ∃ s0 s1 s2 s3 : Int32, H' = H.set q (ar .int [.int s0, .int s1, .int s2, .int s3]) ∧ s0.toInt ≤ s1.toInt ∧ s1.toInt ≤ s2.toInt ∧ s2.toInt ≤ s3.toInt ∧ Pm x0 x1 x2 x3 s0 s1 s2 s3) := by
  refine Met.of_go hw (plainFor_of_name pn_0) (L0 := [.val (.ref q), .val (.int 0), .val (.int 0), .val (.int 4), .unset, .unset, .unset]) rfl ?_
  intro p e s m args below meth c C
  refine go_iloadN e4_0 rfl ?_
  refine go_iloadN e4_1 rfl ?_
  refine go_isub e4_2 ?_
  refine go_istore_4 e4_3 rfl ?_
  refine go_iloadN e4_5 rfl ?_
  refine go_iconst e4_6 (x := 1) rfl ?_
  refine go_icleY e4_7 (tg := 68) (by decide) (by decide) ?_
  refine go_null e4_68 ?_
  refine go_aloadN e4_69 rfl rfl ?_
  refine go_iconst e4_70 (x := 0) rfl ?_
  refine go_iloadN e4_71 rfl ?_
  refine go_iloadN e4_72 rfl ?_
  refine go_staticV_5 e4_73 (wd 27 rfl) (wd 28 rfl) (wd 29 rfl) (wd 25 rfl) hy_1 pd_3 rfl (c_s5 hw hq) rfl 0 rfl (by decide) (by decide) (by decide) (by decide) ?_
  rintro _ hP
  refine go_return e4_76 rfl (by decide) (by decide) ?_
  exact ⟨rfl, hP⟩
set_option maxRecDepth 65536 in
set_option maxHeartbeats 4000000 in
theorem c_sort {l : Launch} {Z : State} {a0 : Array Value} {b : Nat} (hw : ∀ d ∈ tables_1, d.before a0 Z = true) {H : List GCell} {q : Nat} {x0 x1 x2 x3 : Int32} (hq : H[q]? = some (ar .int [.int x0, .int x1, .int x2, .int x3])) :
    Met l Z a0 b (⟨"java/util/Arrays", "sort", "([I)V"⟩ : MethodName) jdk_65_method_2_code 1 none ({ frames := 3, cells := 0, slots := 0, locals := 67 } : Room) [.ref q] H (fun v H' => v = none ∧ ∃ s0 s1 s2 s3 : Int32, H' = H.set q (ar .int [.int s0, .int s1, .int s2, .int s3]) ∧ s0.toInt ≤ s1.toInt ∧ s1.toInt ≤ s2.toInt ∧ s2.toInt ≤ s3.toInt ∧ Pm x0 x1 x2 x3 s0 s1 s2 s3) := by
  refine Met.of_go hw (plainFor_of_name pn_5) (L0 := [.val (.ref q)]) rfl ?_
  intro p e s m args below meth c C
  refine go_aloadN e3_0 rfl rfl ?_
  refine go_iconst e3_1 (x := 0) rfl ?_
  refine go_iconst e3_2 (x := 0) rfl ?_
  refine go_aloadN e3_3 rfl rfl ?_
  refine go_len e3_4 hq (n := 4) rfl ?_
  refine go_staticV_4 e3_5 (wd 23 rfl) (wd 24 rfl) (wd 26 rfl) (wd 25 rfl) hy_1 pd_4 rfl (c_s4 hw hq) rfl 0 rfl (by decide) (by decide) (by decide) (by decide) ?_
  rintro _ hP
  refine go_return e3_8 rfl (by decide) (by decide) ?_
  exact ⟨rfl, hP⟩
set_option maxRecDepth 65536 in
set_option maxHeartbeats 4000000 in
theorem c_init {l : Launch} {Z : State} {a0 : Array Value} {b : Nat} (hw : ∀ d ∈ tables_1, d.before a0 Z = true) {r0 r1 r2 r3 : Int32} :
    Met l Z a0 b (⟨"com/example/outliers_into_crowds/outliersintocrowds/schedule/Splits", "<init>", "([I)V"⟩ : MethodName) prog_37_method_1_code 10 none ({ frames := 4, cells := 4, slots := 18, locals := 79 } : Room) [.ref 1, .ref 0] [ar .int [.int r0, .int r1, .int r2, .int r3], So .null .null .null] (fun v H' => v = none ∧ ∃ (R A : List Int32) (sl hl : List Value), H' = [ar .int [.int r0, .int r1, .int r2, .int r3], So (.ref 3) (.ref 4) (.ref 5), ar .int sl, ar .int (R.map Value.int), ar .int (A.map Value.int), ar .long hl] ∧ (R.length : Int) = own_D r0 r1 r2 r3 ∧ R.length ≤ 4 ∧ SpL (fun v => own_cnt v r0 r1 r2 r3) R A) := by
  refine Met.of_go hw (plainFor_of_name pn_10) (L0 := [.val (.ref 1), .val (.ref 0), .unset, .unset, .unset, .unset, .unset, .unset, .unset, .unset]) rfl ?_
  intro p e s m args below meth c C
  refine go_aloadN e1_0 rfl rfl ?_
  refine go_initO (C := C) e1_1 (wd 7 rfl) (wd 8 rfl) (wd (W := tables_1) 9 rfl) rfl (by decide) 0 (by decide) (by decide) ?_
  refine go_aloadN e1_4 rfl rfl ?_
  refine go_clone (C := C) e1_5 (wd 10 rfl) (wd 11 rfl) (wd 15 rfl) (wd 13 rfl) (wd 14 rfl) (wd 16 rfl) rfl own_r4 rfl (by decide) 0 (Nat.le_of_eq rfl) (by decide) (cap := 4) (Nat.le_of_ble_eq_true rfl) (by decide) (by decide) ?_
  simp only [List.replicate_succ, List.replicate_zero, List.set_cons_zero, List.set_cons_succ, List.length_nil, List.length_cons, Nat.zero_add, Nat.reduceAdd, List.nil_append, List.cons_append]
  refine go_castA (C := C) (ty := .int) e1_8 (wd 17 rfl) rfl ?_
  refine go_astore_2 e1_11 rfl rfl ?_
  refine go_aloadN e1_12 rfl rfl ?_
  refine go_staticV_1 e1_13 (wd 19 rfl) (wd 20 rfl) (wd 22 rfl) (wd 21 rfl) hy_6 pd_7 rfl (c_sort hw rfl) rfl 0 rfl (by decide) (by decide) (by decide) (by decide) ?_
  rintro _ ⟨s0, s1, s2, s3, rfl, o01, o12, o23, hpm⟩
  try simp only [List.replicate_succ, List.replicate_zero, List.set_cons_zero, List.set_cons_succ, List.length_nil, List.length_cons, Nat.zero_add, Nat.reduceAdd, List.nil_append, List.cons_append]
  refine go_iconst e1_16 (x := 0) rfl ?_
  refine go_istore_3 e1_17 rfl ?_
  refine go_iconst e1_18 (x := 0) rfl ?_
  refine go_istore_4 e1_19 rfl ?_
  refine go_iloadN e1_21 rfl ?_
  refine go_aloadN e1_22 rfl rfl ?_
  refine go_len e1_23 rfl (n := 4) rfl ?_
  refine go_icgeN e1_24 (tg := 68) (by decide) (by decide) ?_
  refine go_aloadN e1_27 rfl rfl ?_
  refine go_aloadN e1_28 rfl rfl ?_
  refine go_len e1_29 rfl (n := 4) rfl ?_
  refine go_iconst e1_30 (x := 1) rfl ?_
  refine go_isub e1_31 ?_
  refine go_iloadN e1_32 rfl ?_
  refine go_isub e1_33 ?_
  refine go_iaload e1_34 rfl (k := 3) (by decide) rfl ?_
  refine go_ifle e1_35 (tg := 68) (by decide) ?_ ?_
  · intro z0
    refine go_aloadN e1_68 rfl rfl ?_
    refine go_iload e1_69 rfl ?_
    refine go_newarray e1_71 (wd 0 rfl) (k := 0) rfl (vs := []) rfl (cap := 0) (by decide) (by decide) (by decide) (by decide) ?_
    simp only [List.replicate_succ, List.replicate_zero, List.set_cons_zero, List.set_cons_succ, List.length_nil, List.length_cons, Nat.zero_add, Nat.reduceAdd, List.nil_append, List.cons_append]
    refine go_putfield e1_73 (wd 33 rfl) (Or.inr ⟨(wd 34 rfl), rfl, rfl⟩) (wd 2 rfl) pf_8 rfl (j := 0) rfl rfl rfl ?_
    simp only [List.replicate_succ, List.replicate_zero, List.set_cons_zero, List.set_cons_succ, List.length_nil, List.length_cons, Nat.zero_add, Nat.reduceAdd, List.nil_append, List.cons_append]
    refine go_aloadN e1_76 rfl rfl ?_
    refine go_iload e1_77 rfl ?_
    refine go_iconst e1_79 (x := 1) rfl ?_
    refine go_iadd e1_80 ?_
    refine go_newarray e1_81 (wd 0 rfl) (k := 1) rfl (vs := [.int 0]) rfl (cap := 1) (by decide) (by decide) (by decide) (by decide) ?_
    simp only [List.replicate_succ, List.replicate_zero, List.set_cons_zero, List.set_cons_succ, List.length_nil, List.length_cons, Nat.zero_add, Nat.reduceAdd, List.nil_append, List.cons_append]
    refine go_putfield e1_83 (wd 35 rfl) (Or.inr ⟨(wd 36 rfl), rfl, rfl⟩) (wd 2 rfl) pf_8 rfl (j := 1) rfl rfl rfl ?_
    simp only [List.replicate_succ, List.replicate_zero, List.set_cons_zero, List.set_cons_succ, List.length_nil, List.length_cons, Nat.zero_add, Nat.reduceAdd, List.nil_append, List.cons_append]
    refine go_aloadN e1_86 rfl rfl ?_
    refine go_iload e1_87 rfl ?_
    refine go_iconst e1_89 (x := 1) rfl ?_
    refine go_iadd e1_90 ?_
    refine go_newarray e1_91 (wd 37 rfl) (k := 1) rfl (vs := [.long 0]) rfl (cap := 1) (by decide) (by decide) (by decide) (by decide) ?_
    simp only [List.replicate_succ, List.replicate_zero, List.set_cons_zero, List.set_cons_succ, List.length_nil, List.length_cons, Nat.zero_add, Nat.reduceAdd, List.nil_append, List.cons_append]
    refine go_putfield e1_93 (wd 38 rfl) (Or.inr ⟨(wd 39 rfl), rfl, rfl⟩) (wd 2 rfl) pf_9 rfl (j := 2) rfl rfl rfl ?_
    simp only [List.replicate_succ, List.replicate_zero, List.set_cons_zero, List.set_cons_succ, List.length_nil, List.length_cons, Nat.zero_add, Nat.reduceAdd, List.nil_append, List.cons_append]
    refine go_iconst e1_96 (x := (-1)) rfl ?_
    refine go_istore_5 e1_97 rfl ?_
    refine go_lconst e1_99 (x := 0) rfl ?_
    refine go_lstore_6 e1_100 (Or.inl rfl) rfl ?_
    refine go_iconst e1_102 (x := 0) rfl ?_
    refine go_istore_8 e1_103 rfl ?_
    refine go_iload e1_105 rfl ?_
    refine go_iloadN e1_107 rfl ?_
    refine go_icgeY e1_108 (tg := 183) (by decide) (by decide) ?_
    refine go_aloadN e1_183 rfl rfl ?_
    refine go_getfield e1_184 (wd 35 rfl) rfl (j := 1) rfl ?_
    refine go_iload e1_187 rfl ?_
    refine go_iloadN e1_189 rfl ?_
    refine go_iastore e1_190 rfl (k := 0) (by decide) (Nat.le_of_ble_eq_true rfl) ?_
    simp only [List.replicate_succ, List.replicate_zero, List.set_cons_zero, List.set_cons_succ, List.length_nil, List.length_cons, Nat.zero_add, Nat.reduceAdd, List.nil_append, List.cons_append]
    refine go_aloadN e1_191 rfl rfl ?_
    refine go_getfield e1_192 (wd 38 rfl) rfl (j := 2) rfl ?_
    refine go_iload e1_195 rfl ?_
    refine go_lload e1_197 rfl ?_
    refine go_lastore e1_199 rfl (k := 0) (by decide) (Nat.le_of_ble_eq_true rfl) ?_
    simp only [List.replicate_succ, List.replicate_zero, List.set_cons_zero, List.set_cons_succ, List.length_nil, List.length_cons, Nat.zero_add, Nat.reduceAdd, List.nil_append, List.cons_append]
    refine go_return e1_200 rfl (by decide) (by decide) ?_
    refine ⟨rfl, [], [0], _, _, rfl, ?_, Nat.le_of_ble_eq_true rfl, ?_⟩
    · rw [hpm.1]; unfold own_D; simp only [List.length_cons, List.length_nil]; (repeat' split) <;> omega
    · exact trivial
  · intro z0
    refine go_iloadN e1_38 rfl ?_
    refine go_ifeqY e1_39 (tg := 59) (by decide) (by decide) ?_
    refine go_iinc_4 e1_59 (z := 1) rfl ?_
    refine go_iinc_3 e1_62 (z := 1) rfl ?_
    refine go_goto e1_65 (tg := 21) (by decide) ?_
    refine go_iloadN e1_21 rfl ?_
    refine go_aloadN e1_22 rfl rfl ?_
    refine go_len e1_23 rfl (n := 4) rfl ?_
    refine go_icgeN e1_24 (tg := 68) (by decide) (by decide) ?_
    refine go_aloadN e1_27 rfl rfl ?_
    refine go_aloadN e1_28 rfl rfl ?_
    refine go_len e1_29 rfl (n := 4) rfl ?_
    refine go_iconst e1_30 (x := 1) rfl ?_
    refine go_isub e1_31 ?_
    refine go_iloadN e1_32 rfl ?_
    refine go_isub e1_33 ?_
    refine go_iaload e1_34 rfl (k := 2) (by decide) rfl ?_
    refine go_ifle e1_35 (tg := 68) (by decide) ?_ ?_
    · intro z1
      refine go_aloadN e1_68 rfl rfl ?_
      refine go_iload e1_69 rfl ?_
      refine go_newarray e1_71 (wd 0 rfl) (k := 1) rfl (vs := [.int 0]) rfl (cap := 1) (by decide) (by decide) (by decide) (by decide) ?_
      simp only [List.replicate_succ, List.replicate_zero, List.set_cons_zero, List.set_cons_succ, List.length_nil, List.length_cons, Nat.zero_add, Nat.reduceAdd, List.nil_append, List.cons_append]
      refine go_putfield e1_73 (wd 33 rfl) (Or.inr ⟨(wd 34 rfl), rfl, rfl⟩) (wd 2 rfl) pf_8 rfl (j := 0) rfl rfl rfl ?_
      simp only [List.replicate_succ, List.replicate_zero, List.set_cons_zero, List.set_cons_succ, List.length_nil, List.length_cons, Nat.zero_add, Nat.reduceAdd, List.nil_append, List.cons_append]
      refine go_aloadN e1_76 rfl rfl ?_
      refine go_iload e1_77 rfl ?_
      refine go_iconst e1_79 (x := 1) rfl ?_
      refine go_iadd e1_80 ?_
      refine go_newarray e1_81 (wd 0 rfl) (k := 2) rfl (vs := [.int 0, .int 0]) rfl (cap := 2) (by decide) (by decide) (by decide) (by decide) ?_
      simp only [List.replicate_succ, List.replicate_zero, List.set_cons_zero, List.set_cons_succ, List.length_nil, List.length_cons, Nat.zero_add, Nat.reduceAdd, List.nil_append, List.cons_append]
      refine go_putfield e1_83 (wd 35 rfl) (Or.inr ⟨(wd 36 rfl), rfl, rfl⟩) (wd 2 rfl) pf_8 rfl (j := 1) rfl rfl rfl ?_
      simp only [List.replicate_succ, List.replicate_zero, List.set_cons_zero, List.set_cons_succ, List.length_nil, List.length_cons, Nat.zero_add, Nat.reduceAdd, List.nil_append, List.cons_append]
      refine go_aloadN e1_86 rfl rfl ?_
      refine go_iload e1_87 rfl ?_
      refine go_iconst e1_89 (x := 1) rfl ?_
      refine go_iadd e1_90 ?_
      refine go_newarray e1_91 (wd 37 rfl) (k := 2) rfl (vs := [.long 0, .long 0]) rfl (cap := 2) (by decide) (by decide) (by decide) (by decide) ?_
      simp only [List.replicate_succ, List.replicate_zero, List.set_cons_zero, List.set_cons_succ, List.length_nil, List.length_cons, Nat.zero_add, Nat.reduceAdd, List.nil_append, List.cons_append]
      refine go_putfield e1_93 (wd 38 rfl) (Or.inr ⟨(wd 39 rfl), rfl, rfl⟩) (wd 2 rfl) pf_9 rfl (j := 2) rfl rfl rfl ?_
      simp only [List.replicate_succ, List.replicate_zero, List.set_cons_zero, List.set_cons_succ, List.length_nil, List.length_cons, Nat.zero_add, Nat.reduceAdd, List.nil_append, List.cons_append]
      refine go_iconst e1_96 (x := (-1)) rfl ?_
      refine go_istore_5 e1_97 rfl ?_
      refine go_lconst e1_99 (x := 0) rfl ?_
      refine go_lstore_6 e1_100 (Or.inl rfl) rfl ?_
      refine go_iconst e1_102 (x := 0) rfl ?_
      refine go_istore_8 e1_103 rfl ?_
      refine go_iload e1_105 rfl ?_
      refine go_iloadN e1_107 rfl ?_
      refine go_icgeN e1_108 (tg := 183) (by decide) (by decide) ?_
      refine go_aloadN e1_111 rfl rfl ?_
      refine go_aloadN e1_112 rfl rfl ?_
      refine go_len e1_113 rfl (n := 4) rfl ?_
      refine go_iconst e1_114 (x := 1) rfl ?_
      refine go_isub e1_115 ?_
      refine go_iload e1_116 rfl ?_
      refine go_isub e1_118 ?_
      refine go_iaload e1_119 rfl (k := 3) (by decide) rfl ?_
      refine go_istore_9 e1_120 rfl ?_
      refine go_iload e1_122 rfl ?_
      refine go_ifltY e1_124 (tg := 139) (by decide) (by decide) ?_
      refine go_iinc_5 e1_139 (z := 1) rfl ?_
      refine go_aloadN e1_142 rfl rfl ?_
      refine go_getfield e1_143 (wd 33 rfl) rfl (j := 0) rfl ?_
      refine go_iload e1_146 rfl ?_
      refine go_iload e1_148 rfl ?_
      refine go_iastore e1_150 rfl (k := 0) (by decide) (Nat.le_of_ble_eq_true rfl) ?_
      simp only [List.replicate_succ, List.replicate_zero, List.set_cons_zero, List.set_cons_succ, List.length_nil, List.length_cons, Nat.zero_add, Nat.reduceAdd, List.nil_append, List.cons_append]
      refine go_aloadN e1_151 rfl rfl ?_
      refine go_getfield e1_152 (wd 35 rfl) rfl (j := 1) rfl ?_
      refine go_iload e1_155 rfl ?_
      refine go_iload e1_157 rfl ?_
      refine go_iastore e1_159 rfl (k := 0) (by decide) (Nat.le_of_ble_eq_true rfl) ?_
      simp only [List.replicate_succ, List.replicate_zero, List.set_cons_zero, List.set_cons_succ, List.length_nil, List.length_cons, Nat.zero_add, Nat.reduceAdd, List.nil_append, List.cons_append]
      refine go_aloadN e1_160 rfl rfl ?_
      refine go_getfield e1_161 (wd 38 rfl) rfl (j := 2) rfl ?_
      refine go_iload e1_164 rfl ?_
      refine go_lload e1_166 rfl ?_
      refine go_lastore e1_168 rfl (k := 0) (by decide) (Nat.le_of_ble_eq_true rfl) ?_
      simp only [List.replicate_succ, List.replicate_zero, List.set_cons_zero, List.set_cons_succ, List.length_nil, List.length_cons, Nat.zero_add, Nat.reduceAdd, List.nil_append, List.cons_append]
      refine go_lload e1_169 rfl ?_
      refine go_iload e1_171 rfl ?_
      refine go_i2l e1_173 ?_
      refine go_ladd e1_174 ?_
      refine go_lstore_6 e1_175 (Or.inr ⟨_, rfl⟩) rfl ?_
      refine go_iinc_8 e1_177 (z := 1) rfl ?_
      refine go_goto e1_180 (tg := 105) (by decide) ?_
      refine go_iload e1_105 rfl ?_
      refine go_iloadN e1_107 rfl ?_
      refine go_icgeY e1_108 (tg := 183) (by decide) (by decide) ?_
      refine go_aloadN e1_183 rfl rfl ?_
      refine go_getfield e1_184 (wd 35 rfl) rfl (j := 1) rfl ?_
      refine go_iload e1_187 rfl ?_
      refine go_iloadN e1_189 rfl ?_
      refine go_iastore e1_190 rfl (k := 1) (by decide) (Nat.le_of_ble_eq_true rfl) ?_
      simp only [List.replicate_succ, List.replicate_zero, List.set_cons_zero, List.set_cons_succ, List.length_nil, List.length_cons, Nat.zero_add, Nat.reduceAdd, List.nil_append, List.cons_append]
      refine go_aloadN e1_191 rfl rfl ?_
      refine go_getfield e1_192 (wd 38 rfl) rfl (j := 2) rfl ?_
      refine go_iload e1_195 rfl ?_
      refine go_lload e1_197 rfl ?_
      refine go_lastore e1_199 rfl (k := 1) (by decide) (Nat.le_of_ble_eq_true rfl) ?_
      simp only [List.replicate_succ, List.replicate_zero, List.set_cons_zero, List.set_cons_succ, List.length_nil, List.length_cons, Nat.zero_add, Nat.reduceAdd, List.nil_append, List.cons_append]
      refine go_return e1_200 rfl (by decide) (by decide) ?_
      refine ⟨rfl, [s3], [0, 1], _, _, rfl, ?_, Nat.le_of_ble_eq_true rfl, ?_⟩
      · rw [hpm.1]; unfold own_D; simp only [List.length_cons, List.length_nil]; (repeat' split) <;> omega
      · exact ⟨⟨by omega, by show _ = own_cnt s3 r0 r1 r2 r3; rw [hpm.2 s3, show ((1 : Int32) - 0).toInt = 1 by decide]; unfold own_cnt; (repeat' split) <;> omega, by show 0 < own_cnt s3 r0 r1 r2 r3; rw [hpm.2 s3]; unfold own_cnt; (repeat' split) <;> omega, fun w hw => by cases hw⟩, trivial⟩
    · intro z1
      refine go_iloadN e1_38 rfl ?_
      refine go_ifeqN e1_39 (tg := 59) (by decide) (by decide) ?_
      refine go_aloadN e1_42 rfl rfl ?_
      refine go_aloadN e1_43 rfl rfl ?_
      refine go_len e1_44 rfl (n := 4) rfl ?_
      refine go_iconst e1_45 (x := 1) rfl ?_
      refine go_isub e1_46 ?_
      refine go_iloadN e1_47 rfl ?_
      refine go_isub e1_48 ?_
      refine go_iaload e1_49 rfl (k := 2) (by decide) rfl ?_
      refine go_aloadN e1_50 rfl rfl ?_
      refine go_aloadN e1_51 rfl rfl ?_
      refine go_len e1_52 rfl (n := 4) rfl ?_
      refine go_iloadN e1_53 rfl ?_
      refine go_isub e1_54 ?_
      refine go_iaload e1_55 rfl (k := 3) (by decide) rfl ?_
      refine go_iceq e1_56 (tg := 62) (by decide) ?_ ?_
      · intro c56
        have d1 := congrArg Int32.toInt c56
        refine go_iinc_3 e1_62 (z := 1) rfl ?_
        refine go_goto e1_65 (tg := 21) (by decide) ?_
        refine go_iloadN e1_21 rfl ?_
        refine go_aloadN e1_22 rfl rfl ?_
        refine go_len e1_23 rfl (n := 4) rfl ?_
        refine go_icgeN e1_24 (tg := 68) (by decide) (by decide) ?_
        refine go_aloadN e1_27 rfl rfl ?_
        refine go_aloadN e1_28 rfl rfl ?_
        refine go_len e1_29 rfl (n := 4) rfl ?_
        refine go_iconst e1_30 (x := 1) rfl ?_
        refine go_isub e1_31 ?_
        refine go_iloadN e1_32 rfl ?_
        refine go_isub e1_33 ?_
        refine go_iaload e1_34 rfl (k := 1) (by decide) rfl ?_
        refine go_ifle e1_35 (tg := 68) (by decide) ?_ ?_
        · intro z2
          refine go_aloadN e1_68 rfl rfl ?_
          refine go_iload e1_69 rfl ?_
          refine go_newarray e1_71 (wd 0 rfl) (k := 1) rfl (vs := [.int 0]) rfl (cap := 1) (by decide) (by decide) (by decide) (by decide) ?_
          simp only [List.replicate_succ, List.replicate_zero, List.set_cons_zero, List.set_cons_succ, List.length_nil, List.length_cons, Nat.zero_add, Nat.reduceAdd, List.nil_append, List.cons_append]
          refine go_putfield e1_73 (wd 33 rfl) (Or.inr ⟨(wd 34 rfl), rfl, rfl⟩) (wd 2 rfl) pf_8 rfl (j := 0) rfl rfl rfl ?_
          simp only [List.replicate_succ, List.replicate_zero, List.set_cons_zero, List.set_cons_succ, List.length_nil, List.length_cons, Nat.zero_add, Nat.reduceAdd, List.nil_append, List.cons_append]
          refine go_aloadN e1_76 rfl rfl ?_
          refine go_iload e1_77 rfl ?_
          refine go_iconst e1_79 (x := 1) rfl ?_
          refine go_iadd e1_80 ?_
          refine go_newarray e1_81 (wd 0 rfl) (k := 2) rfl (vs := [.int 0, .int 0]) rfl (cap := 2) (by decide) (by decide) (by decide) (by decide) ?_
          simp only [List.replicate_succ, List.replicate_zero, List.set_cons_zero, List.set_cons_succ, List.length_nil, List.length_cons, Nat.zero_add, Nat.reduceAdd, List.nil_append, List.cons_append]
          refine go_putfield e1_83 (wd 35 rfl) (Or.inr ⟨(wd 36 rfl), rfl, rfl⟩) (wd 2 rfl) pf_8 rfl (j := 1) rfl rfl rfl ?_
          simp only [List.replicate_succ, List.replicate_zero, List.set_cons_zero, List.set_cons_succ, List.length_nil, List.length_cons, Nat.zero_add, Nat.reduceAdd, List.nil_append, List.cons_append]
          refine go_aloadN e1_86 rfl rfl ?_
          refine go_iload e1_87 rfl ?_
          refine go_iconst e1_89 (x := 1) rfl ?_
          refine go_iadd e1_90 ?_
          refine go_newarray e1_91 (wd 37 rfl) (k := 2) rfl (vs := [.long 0, .long 0]) rfl (cap := 2) (by decide) (by decide) (by decide) (by decide) ?_
          simp only [List.replicate_succ, List.replicate_zero, List.set_cons_zero, List.set_cons_succ, List.length_nil, List.length_cons, Nat.zero_add, Nat.reduceAdd, List.nil_append, List.cons_append]
          refine go_putfield e1_93 (wd 38 rfl) (Or.inr ⟨(wd 39 rfl), rfl, rfl⟩) (wd 2 rfl) pf_9 rfl (j := 2) rfl rfl rfl ?_
          simp only [List.replicate_succ, List.replicate_zero, List.set_cons_zero, List.set_cons_succ, List.length_nil, List.length_cons, Nat.zero_add, Nat.reduceAdd, List.nil_append, List.cons_append]
          refine go_iconst e1_96 (x := (-1)) rfl ?_
          refine go_istore_5 e1_97 rfl ?_
          refine go_lconst e1_99 (x := 0) rfl ?_
          refine go_lstore_6 e1_100 (Or.inl rfl) rfl ?_
          refine go_iconst e1_102 (x := 0) rfl ?_
          refine go_istore_8 e1_103 rfl ?_
          refine go_iload e1_105 rfl ?_
          refine go_iloadN e1_107 rfl ?_
          refine go_icgeN e1_108 (tg := 183) (by decide) (by decide) ?_
          refine go_aloadN e1_111 rfl rfl ?_
          refine go_aloadN e1_112 rfl rfl ?_
          refine go_len e1_113 rfl (n := 4) rfl ?_
          refine go_iconst e1_114 (x := 1) rfl ?_
          refine go_isub e1_115 ?_
          refine go_iload e1_116 rfl ?_
          refine go_isub e1_118 ?_
          refine go_iaload e1_119 rfl (k := 3) (by decide) rfl ?_
          refine go_istore_9 e1_120 rfl ?_
          refine go_iload e1_122 rfl ?_
          refine go_ifltY e1_124 (tg := 139) (by decide) (by decide) ?_
          refine go_iinc_5 e1_139 (z := 1) rfl ?_
          refine go_aloadN e1_142 rfl rfl ?_
          refine go_getfield e1_143 (wd 33 rfl) rfl (j := 0) rfl ?_
          refine go_iload e1_146 rfl ?_
          refine go_iload e1_148 rfl ?_
          refine go_iastore e1_150 rfl (k := 0) (by decide) (Nat.le_of_ble_eq_true rfl) ?_
          simp only [List.replicate_succ, List.replicate_zero, List.set_cons_zero, List.set_cons_succ, List.length_nil, List.length_cons, Nat.zero_add, Nat.reduceAdd, List.nil_append, List.cons_append]
          refine go_aloadN e1_151 rfl rfl ?_
          refine go_getfield e1_152 (wd 35 rfl) rfl (j := 1) rfl ?_
          refine go_iload e1_155 rfl ?_
          refine go_iload e1_157 rfl ?_
          refine go_iastore e1_159 rfl (k := 0) (by decide) (Nat.le_of_ble_eq_true rfl) ?_
          simp only [List.replicate_succ, List.replicate_zero, List.set_cons_zero, List.set_cons_succ, List.length_nil, List.length_cons, Nat.zero_add, Nat.reduceAdd, List.nil_append, List.cons_append]
          refine go_aloadN e1_160 rfl rfl ?_
          refine go_getfield e1_161 (wd 38 rfl) rfl (j := 2) rfl ?_
          refine go_iload e1_164 rfl ?_
          refine go_lload e1_166 rfl ?_
          refine go_lastore e1_168 rfl (k := 0) (by decide) (Nat.le_of_ble_eq_true rfl) ?_
          simp only [List.replicate_succ, List.replicate_zero, List.set_cons_zero, List.set_cons_succ, List.length_nil, List.length_cons, Nat.zero_add, Nat.reduceAdd, List.nil_append, List.cons_append]
          refine go_lload e1_169 rfl ?_
          refine go_iload e1_171 rfl ?_
          refine go_i2l e1_173 ?_
          refine go_ladd e1_174 ?_
          refine go_lstore_6 e1_175 (Or.inr ⟨_, rfl⟩) rfl ?_
          refine go_iinc_8 e1_177 (z := 1) rfl ?_
          refine go_goto e1_180 (tg := 105) (by decide) ?_
          refine go_iload e1_105 rfl ?_
          refine go_iloadN e1_107 rfl ?_
          refine go_icgeN e1_108 (tg := 183) (by decide) (by decide) ?_
          refine go_aloadN e1_111 rfl rfl ?_
          refine go_aloadN e1_112 rfl rfl ?_
          refine go_len e1_113 rfl (n := 4) rfl ?_
          refine go_iconst e1_114 (x := 1) rfl ?_
          refine go_isub e1_115 ?_
          refine go_iload e1_116 rfl ?_
          refine go_isub e1_118 ?_
          refine go_iaload e1_119 rfl (k := 2) (by decide) rfl ?_
          refine go_istore_9 e1_120 rfl ?_
          refine go_iload e1_122 rfl ?_
          refine go_ifltN e1_124 (tg := 139) (by decide) (by decide) ?_
          refine go_iload e1_127 rfl ?_
          refine go_aloadN e1_129 rfl rfl ?_
          refine go_getfield e1_130 (wd 33 rfl) rfl (j := 0) rfl ?_
          refine go_iload e1_133 rfl ?_
          refine go_iaload e1_135 rfl (k := 0) (by decide) rfl ?_
          refine go_iceqY e1_136 (tg := 169) (by decide) (Int32.toInt_inj.mp (by omega)) ?_
          refine go_lload e1_169 rfl ?_
          refine go_iload e1_171 rfl ?_
          refine go_i2l e1_173 ?_
          refine go_ladd e1_174 ?_
          refine go_lstore_6 e1_175 (Or.inr ⟨_, rfl⟩) rfl ?_
          refine go_iinc_8 e1_177 (z := 1) rfl ?_
          refine go_goto e1_180 (tg := 105) (by decide) ?_
          refine go_iload e1_105 rfl ?_
          refine go_iloadN e1_107 rfl ?_
          refine go_icgeY e1_108 (tg := 183) (by decide) (by decide) ?_
          refine go_aloadN e1_183 rfl rfl ?_
          refine go_getfield e1_184 (wd 35 rfl) rfl (j := 1) rfl ?_
          refine go_iload e1_187 rfl ?_
          refine go_iloadN e1_189 rfl ?_
          refine go_iastore e1_190 rfl (k := 1) (by decide) (Nat.le_of_ble_eq_true rfl) ?_
          simp only [List.replicate_succ, List.replicate_zero, List.set_cons_zero, List.set_cons_succ, List.length_nil, List.length_cons, Nat.zero_add, Nat.reduceAdd, List.nil_append, List.cons_append]
          refine go_aloadN e1_191 rfl rfl ?_
          refine go_getfield e1_192 (wd 38 rfl) rfl (j := 2) rfl ?_
          refine go_iload e1_195 rfl ?_
          refine go_lload e1_197 rfl ?_
          refine go_lastore e1_199 rfl (k := 1) (by decide) (Nat.le_of_ble_eq_true rfl) ?_
          simp only [List.replicate_succ, List.replicate_zero, List.set_cons_zero, List.set_cons_succ, List.length_nil, List.length_cons, Nat.zero_add, Nat.reduceAdd, List.nil_append, List.cons_append]
          refine go_return e1_200 rfl (by decide) (by decide) ?_
          refine ⟨rfl, [s3], [0, 2], _, _, rfl, ?_, Nat.le_of_ble_eq_true rfl, ?_⟩
          · rw [hpm.1]; unfold own_D; simp only [List.length_cons, List.length_nil]; (repeat' split) <;> omega
          · exact ⟨⟨by omega, by show _ = own_cnt s3 r0 r1 r2 r3; rw [hpm.2 s3, show ((2 : Int32) - 0).toInt = 2 by decide]; unfold own_cnt; (repeat' split) <;> omega, by show 0 < own_cnt s3 r0 r1 r2 r3; rw [hpm.2 s3]; unfold own_cnt; (repeat' split) <;> omega, fun w hw => by cases hw⟩, trivial⟩
        · intro z2
          refine go_iloadN e1_38 rfl ?_
          refine go_ifeqN e1_39 (tg := 59) (by decide) (by decide) ?_
          refine go_aloadN e1_42 rfl rfl ?_
          refine go_aloadN e1_43 rfl rfl ?_
          refine go_len e1_44 rfl (n := 4) rfl ?_
          refine go_iconst e1_45 (x := 1) rfl ?_
          refine go_isub e1_46 ?_
          refine go_iloadN e1_47 rfl ?_
          refine go_isub e1_48 ?_
          refine go_iaload e1_49 rfl (k := 1) (by decide) rfl ?_
          refine go_aloadN e1_50 rfl rfl ?_
          refine go_aloadN e1_51 rfl rfl ?_
          refine go_len e1_52 rfl (n := 4) rfl ?_
          refine go_iloadN e1_53 rfl ?_
          refine go_isub e1_54 ?_
          refine go_iaload e1_55 rfl (k := 2) (by decide) rfl ?_
          refine go_iceq e1_56 (tg := 62) (by decide) ?_ ?_
          · intro c56
            have d2 := congrArg Int32.toInt c56
            refine go_iinc_3 e1_62 (z := 1) rfl ?_
            refine go_goto e1_65 (tg := 21) (by decide) ?_
            refine go_iloadN e1_21 rfl ?_
            refine go_aloadN e1_22 rfl rfl ?_
            refine go_len e1_23 rfl (n := 4) rfl ?_
            refine go_icgeN e1_24 (tg := 68) (by decide) (by decide) ?_
            refine go_aloadN e1_27 rfl rfl ?_
            refine go_aloadN e1_28 rfl rfl ?_
            refine go_len e1_29 rfl (n := 4) rfl ?_
            refine go_iconst e1_30 (x := 1) rfl ?_
            refine go_isub e1_31 ?_
            refine go_iloadN e1_32 rfl ?_
            refine go_isub e1_33 ?_
            refine go_iaload e1_34 rfl (k := 0) (by decide) rfl ?_
            refine go_ifle e1_35 (tg := 68) (by decide) ?_ ?_
            · intro z3
              refine go_aloadN e1_68 rfl rfl ?_
              refine go_iload e1_69 rfl ?_
              refine go_newarray e1_71 (wd 0 rfl) (k := 1) rfl (vs := [.int 0]) rfl (cap := 1) (by decide) (by decide) (by decide) (by decide) ?_
              simp only [List.replicate_succ, List.replicate_zero, List.set_cons_zero, List.set_cons_succ, List.length_nil, List.length_cons, Nat.zero_add, Nat.reduceAdd, List.nil_append, List.cons_append]
              refine go_putfield e1_73 (wd 33 rfl) (Or.inr ⟨(wd 34 rfl), rfl, rfl⟩) (wd 2 rfl) pf_8 rfl (j := 0) rfl rfl rfl ?_
              simp only [List.replicate_succ, List.replicate_zero, List.set_cons_zero, List.set_cons_succ, List.length_nil, List.length_cons, Nat.zero_add, Nat.reduceAdd, List.nil_append, List.cons_append]
              refine go_aloadN e1_76 rfl rfl ?_
              refine go_iload e1_77 rfl ?_
              refine go_iconst e1_79 (x := 1) rfl ?_
              refine go_iadd e1_80 ?_
              refine go_newarray e1_81 (wd 0 rfl) (k := 2) rfl (vs := [.int 0, .int 0]) rfl (cap := 2) (by decide) (by decide) (by decide) (by decide) ?_
              simp only [List.replicate_succ, List.replicate_zero, List.set_cons_zero, List.set_cons_succ, List.length_nil, List.length_cons, Nat.zero_add, Nat.reduceAdd, List.nil_append, List.cons_append]
              refine go_putfield e1_83 (wd 35 rfl) (Or.inr ⟨(wd 36 rfl), rfl, rfl⟩) (wd 2 rfl) pf_8 rfl (j := 1) rfl rfl rfl ?_
              simp only [List.replicate_succ, List.replicate_zero, List.set_cons_zero, List.set_cons_succ, List.length_nil, List.length_cons, Nat.zero_add, Nat.reduceAdd, List.nil_append, List.cons_append]
              refine go_aloadN e1_86 rfl rfl ?_
              refine go_iload e1_87 rfl ?_
              refine go_iconst e1_89 (x := 1) rfl ?_
              refine go_iadd e1_90 ?_
              refine go_newarray e1_91 (wd 37 rfl) (k := 2) rfl (vs := [.long 0, .long 0]) rfl (cap := 2) (by decide) (by decide) (by decide) (by decide) ?_
              simp only [List.replicate_succ, List.replicate_zero, List.set_cons_zero, List.set_cons_succ, List.length_nil, List.length_cons, Nat.zero_add, Nat.reduceAdd, List.nil_append, List.cons_append]
              refine go_putfield e1_93 (wd 38 rfl) (Or.inr ⟨(wd 39 rfl), rfl, rfl⟩) (wd 2 rfl) pf_9 rfl (j := 2) rfl rfl rfl ?_
              simp only [List.replicate_succ, List.replicate_zero, List.set_cons_zero, List.set_cons_succ, List.length_nil, List.length_cons, Nat.zero_add, Nat.reduceAdd, List.nil_append, List.cons_append]
              refine go_iconst e1_96 (x := (-1)) rfl ?_
              refine go_istore_5 e1_97 rfl ?_
              refine go_lconst e1_99 (x := 0) rfl ?_
              refine go_lstore_6 e1_100 (Or.inl rfl) rfl ?_
              refine go_iconst e1_102 (x := 0) rfl ?_
              refine go_istore_8 e1_103 rfl ?_
              refine go_iload e1_105 rfl ?_
              refine go_iloadN e1_107 rfl ?_
              refine go_icgeN e1_108 (tg := 183) (by decide) (by decide) ?_
              refine go_aloadN e1_111 rfl rfl ?_
              refine go_aloadN e1_112 rfl rfl ?_
              refine go_len e1_113 rfl (n := 4) rfl ?_
              refine go_iconst e1_114 (x := 1) rfl ?_
              refine go_isub e1_115 ?_
              refine go_iload e1_116 rfl ?_
              refine go_isub e1_118 ?_
              refine go_iaload e1_119 rfl (k := 3) (by decide) rfl ?_
              refine go_istore_9 e1_120 rfl ?_
              refine go_iload e1_122 rfl ?_
              refine go_ifltY e1_124 (tg := 139) (by decide) (by decide) ?_
              refine go_iinc_5 e1_139 (z := 1) rfl ?_
              refine go_aloadN e1_142 rfl rfl ?_
              refine go_getfield e1_143 (wd 33 rfl) rfl (j := 0) rfl ?_
              refine go_iload e1_146 rfl ?_
              refine go_iload e1_148 rfl ?_
              refine go_iastore e1_150 rfl (k := 0) (by decide) (Nat.le_of_ble_eq_true rfl) ?_
              simp only [List.replicate_succ, List.replicate_zero, List.set_cons_zero, List.set_cons_succ, List.length_nil, List.length_cons, Nat.zero_add, Nat.reduceAdd, List.nil_append, List.cons_append]
              refine go_aloadN e1_151 rfl rfl ?_
              refine go_getfield e1_152 (wd 35 rfl) rfl (j := 1) rfl ?_
              refine go_iload e1_155 rfl ?_
              refine go_iload e1_157 rfl ?_
              refine go_iastore e1_159 rfl (k := 0) (by decide) (Nat.le_of_ble_eq_true rfl) ?_
              simp only [List.replicate_succ, List.replicate_zero, List.set_cons_zero, List.set_cons_succ, List.length_nil, List.length_cons, Nat.zero_add, Nat.reduceAdd, List.nil_append, List.cons_append]
              refine go_aloadN e1_160 rfl rfl ?_
              refine go_getfield e1_161 (wd 38 rfl) rfl (j := 2) rfl ?_
              refine go_iload e1_164 rfl ?_
              refine go_lload e1_166 rfl ?_
              refine go_lastore e1_168 rfl (k := 0) (by decide) (Nat.le_of_ble_eq_true rfl) ?_
              simp only [List.replicate_succ, List.replicate_zero, List.set_cons_zero, List.set_cons_succ, List.length_nil, List.length_cons, Nat.zero_add, Nat.reduceAdd, List.nil_append, List.cons_append]
              refine go_lload e1_169 rfl ?_
              refine go_iload e1_171 rfl ?_
              refine go_i2l e1_173 ?_
              refine go_ladd e1_174 ?_
              refine go_lstore_6 e1_175 (Or.inr ⟨_, rfl⟩) rfl ?_
              refine go_iinc_8 e1_177 (z := 1) rfl ?_
              refine go_goto e1_180 (tg := 105) (by decide) ?_
              refine go_iload e1_105 rfl ?_
              refine go_iloadN e1_107 rfl ?_
              refine go_icgeN e1_108 (tg := 183) (by decide) (by decide) ?_
              refine go_aloadN e1_111 rfl rfl ?_
              refine go_aloadN e1_112 rfl rfl ?_
              refine go_len e1_113 rfl (n := 4) rfl ?_
              refine go_iconst e1_114 (x := 1) rfl ?_
              refine go_isub e1_115 ?_
              refine go_iload e1_116 rfl ?_
              refine go_isub e1_118 ?_
              refine go_iaload e1_119 rfl (k := 2) (by decide) rfl ?_
              refine go_istore_9 e1_120 rfl ?_
              refine go_iload e1_122 rfl ?_
              refine go_ifltN e1_124 (tg := 139) (by decide) (by decide) ?_
              refine go_iload e1_127 rfl ?_
              refine go_aloadN e1_129 rfl rfl ?_
              refine go_getfield e1_130 (wd 33 rfl) rfl (j := 0) rfl ?_
              refine go_iload e1_133 rfl ?_
              refine go_iaload e1_135 rfl (k := 0) (by decide) rfl ?_
              refine go_iceqY e1_136 (tg := 169) (by decide) (Int32.toInt_inj.mp (by omega)) ?_
              refine go_lload e1_169 rfl ?_
              refine go_iload e1_171 rfl ?_
              refine go_i2l e1_173 ?_
              refine go_ladd e1_174 ?_
              refine go_lstore_6 e1_175 (Or.inr ⟨_, rfl⟩) rfl ?_
              refine go_iinc_8 e1_177 (z := 1) rfl ?_
              refine go_goto e1_180 (tg := 105) (by decide) ?_
              refine go_iload e1_105 rfl ?_
              refine go_iloadN e1_107 rfl ?_
              refine go_icgeN e1_108 (tg := 183) (by decide) (by decide) ?_
              refine go_aloadN e1_111 rfl rfl ?_
              refine go_aloadN e1_112 rfl rfl ?_
              refine go_len e1_113 rfl (n := 4) rfl ?_
              refine go_iconst e1_114 (x := 1) rfl ?_
              refine go_isub e1_115 ?_
              refine go_iload e1_116 rfl ?_
              refine go_isub e1_118 ?_
              refine go_iaload e1_119 rfl (k := 1) (by decide) rfl ?_
              refine go_istore_9 e1_120 rfl ?_
              refine go_iload e1_122 rfl ?_
              refine go_ifltN e1_124 (tg := 139) (by decide) (by decide) ?_
              refine go_iload e1_127 rfl ?_
              refine go_aloadN e1_129 rfl rfl ?_
              refine go_getfield e1_130 (wd 33 rfl) rfl (j := 0) rfl ?_
              refine go_iload e1_133 rfl ?_
              refine go_iaload e1_135 rfl (k := 0) (by decide) rfl ?_
              refine go_iceqY e1_136 (tg := 169) (by decide) (Int32.toInt_inj.mp (by omega)) ?_
              refine go_lload e1_169 rfl ?_
              refine go_iload e1_171 rfl ?_
              refine go_i2l e1_173 ?_
              refine go_ladd e1_174 ?_
              refine go_lstore_6 e1_175 (Or.inr ⟨_, rfl⟩) rfl ?_
              refine go_iinc_8 e1_177 (z := 1) rfl ?_
              refine go_goto e1_180 (tg := 105) (by decide) ?_
              refine go_iload e1_105 rfl ?_
              refine go_iloadN e1_107 rfl ?_
              refine go_icgeY e1_108 (tg := 183) (by decide) (by decide) ?_
              refine go_aloadN e1_183 rfl rfl ?_
              refine go_getfield e1_184 (wd 35 rfl) rfl (j := 1) rfl ?_
              refine go_iload e1_187 rfl ?_
              refine go_iloadN e1_189 rfl ?_
              refine go_iastore e1_190 rfl (k := 1) (by decide) (Nat.le_of_ble_eq_true rfl) ?_
              simp only [List.replicate_succ, List.replicate_zero, List.set_cons_zero, List.set_cons_succ, List.length_nil, List.length_cons, Nat.zero_add, Nat.reduceAdd, List.nil_append, List.cons_append]
              refine go_aloadN e1_191 rfl rfl ?_
              refine go_getfield e1_192 (wd 38 rfl) rfl (j := 2) rfl ?_
              refine go_iload e1_195 rfl ?_
              refine go_lload e1_197 rfl ?_
              refine go_lastore e1_199 rfl (k := 1) (by decide) (Nat.le_of_ble_eq_true rfl) ?_
              simp only [List.replicate_succ, List.replicate_zero, List.set_cons_zero, List.set_cons_succ, List.length_nil, List.length_cons, Nat.zero_add, Nat.reduceAdd, List.nil_append, List.cons_append]
              refine go_return e1_200 rfl (by decide) (by decide) ?_
              refine ⟨rfl, [s3], [0, 3], _, _, rfl, ?_, Nat.le_of_ble_eq_true rfl, ?_⟩
              · rw [hpm.1]; unfold own_D; simp only [List.length_cons, List.length_nil]; (repeat' split) <;> omega
              · exact ⟨⟨by omega, by show _ = own_cnt s3 r0 r1 r2 r3; rw [hpm.2 s3, show ((3 : Int32) - 0).toInt = 3 by decide]; unfold own_cnt; (repeat' split) <;> omega, by show 0 < own_cnt s3 r0 r1 r2 r3; rw [hpm.2 s3]; unfold own_cnt; (repeat' split) <;> omega, fun w hw => by cases hw⟩, trivial⟩
            · intro z3
              refine go_iloadN e1_38 rfl ?_
              refine go_ifeqN e1_39 (tg := 59) (by decide) (by decide) ?_
              refine go_aloadN e1_42 rfl rfl ?_
              refine go_aloadN e1_43 rfl rfl ?_
              refine go_len e1_44 rfl (n := 4) rfl ?_
              refine go_iconst e1_45 (x := 1) rfl ?_
              refine go_isub e1_46 ?_
              refine go_iloadN e1_47 rfl ?_
              refine go_isub e1_48 ?_
              refine go_iaload e1_49 rfl (k := 0) (by decide) rfl ?_
              refine go_aloadN e1_50 rfl rfl ?_
              refine go_aloadN e1_51 rfl rfl ?_
              refine go_len e1_52 rfl (n := 4) rfl ?_
              refine go_iloadN e1_53 rfl ?_
              refine go_isub e1_54 ?_
              refine go_iaload e1_55 rfl (k := 1) (by decide) rfl ?_
              refine go_iceq e1_56 (tg := 62) (by decide) ?_ ?_
              · intro c56
                have d3 := congrArg Int32.toInt c56
                refine go_iinc_3 e1_62 (z := 1) rfl ?_
                refine go_goto e1_65 (tg := 21) (by decide) ?_
                refine go_iloadN e1_21 rfl ?_
                refine go_aloadN e1_22 rfl rfl ?_
                refine go_len e1_23 rfl (n := 4) rfl ?_
                refine go_icgeY e1_24 (tg := 68) (by decide) (by decide) ?_
                refine go_aloadN e1_68 rfl rfl ?_
                refine go_iload e1_69 rfl ?_
                refine go_newarray e1_71 (wd 0 rfl) (k := 1) rfl (vs := [.int 0]) rfl (cap := 1) (by decide) (by decide) (by decide) (by decide) ?_
                simp only [List.replicate_succ, List.replicate_zero, List.set_cons_zero, List.set_cons_succ, List.length_nil, List.length_cons, Nat.zero_add, Nat.reduceAdd, List.nil_append, List.cons_append]
                refine go_putfield e1_73 (wd 33 rfl) (Or.inr ⟨(wd 34 rfl), rfl, rfl⟩) (wd 2 rfl) pf_8 rfl (j := 0) rfl rfl rfl ?_
                simp only [List.replicate_succ, List.replicate_zero, List.set_cons_zero, List.set_cons_succ, List.length_nil, List.length_cons, Nat.zero_add, Nat.reduceAdd, List.nil_append, List.cons_append]
                refine go_aloadN e1_76 rfl rfl ?_
                refine go_iload e1_77 rfl ?_
                refine go_iconst e1_79 (x := 1) rfl ?_
                refine go_iadd e1_80 ?_
                refine go_newarray e1_81 (wd 0 rfl) (k := 2) rfl (vs := [.int 0, .int 0]) rfl (cap := 2) (by decide) (by decide) (by decide) (by decide) ?_
                simp only [List.replicate_succ, List.replicate_zero, List.set_cons_zero, List.set_cons_succ, List.length_nil, List.length_cons, Nat.zero_add, Nat.reduceAdd, List.nil_append, List.cons_append]
                refine go_putfield e1_83 (wd 35 rfl) (Or.inr ⟨(wd 36 rfl), rfl, rfl⟩) (wd 2 rfl) pf_8 rfl (j := 1) rfl rfl rfl ?_
                simp only [List.replicate_succ, List.replicate_zero, List.set_cons_zero, List.set_cons_succ, List.length_nil, List.length_cons, Nat.zero_add, Nat.reduceAdd, List.nil_append, List.cons_append]
                refine go_aloadN e1_86 rfl rfl ?_
                refine go_iload e1_87 rfl ?_
                refine go_iconst e1_89 (x := 1) rfl ?_
                refine go_iadd e1_90 ?_
                refine go_newarray e1_91 (wd 37 rfl) (k := 2) rfl (vs := [.long 0, .long 0]) rfl (cap := 2) (by decide) (by decide) (by decide) (by decide) ?_
                simp only [List.replicate_succ, List.replicate_zero, List.set_cons_zero, List.set_cons_succ, List.length_nil, List.length_cons, Nat.zero_add, Nat.reduceAdd, List.nil_append, List.cons_append]
                refine go_putfield e1_93 (wd 38 rfl) (Or.inr ⟨(wd 39 rfl), rfl, rfl⟩) (wd 2 rfl) pf_9 rfl (j := 2) rfl rfl rfl ?_
                simp only [List.replicate_succ, List.replicate_zero, List.set_cons_zero, List.set_cons_succ, List.length_nil, List.length_cons, Nat.zero_add, Nat.reduceAdd, List.nil_append, List.cons_append]
                refine go_iconst e1_96 (x := (-1)) rfl ?_
                refine go_istore_5 e1_97 rfl ?_
                refine go_lconst e1_99 (x := 0) rfl ?_
                refine go_lstore_6 e1_100 (Or.inl rfl) rfl ?_
                refine go_iconst e1_102 (x := 0) rfl ?_
                refine go_istore_8 e1_103 rfl ?_
                refine go_iload e1_105 rfl ?_
                refine go_iloadN e1_107 rfl ?_
                refine go_icgeN e1_108 (tg := 183) (by decide) (by decide) ?_
                refine go_aloadN e1_111 rfl rfl ?_
                refine go_aloadN e1_112 rfl rfl ?_
                refine go_len e1_113 rfl (n := 4) rfl ?_
                refine go_iconst e1_114 (x := 1) rfl ?_
                refine go_isub e1_115 ?_
                refine go_iload e1_116 rfl ?_
                refine go_isub e1_118 ?_
                refine go_iaload e1_119 rfl (k := 3) (by decide) rfl ?_
                refine go_istore_9 e1_120 rfl ?_
                refine go_iload e1_122 rfl ?_
                refine go_ifltY e1_124 (tg := 139) (by decide) (by decide) ?_
                refine go_iinc_5 e1_139 (z := 1) rfl ?_
                refine go_aloadN e1_142 rfl rfl ?_
                refine go_getfield e1_143 (wd 33 rfl) rfl (j := 0) rfl ?_
                refine go_iload e1_146 rfl ?_
                refine go_iload e1_148 rfl ?_
                refine go_iastore e1_150 rfl (k := 0) (by decide) (Nat.le_of_ble_eq_true rfl) ?_
                simp only [List.replicate_succ, List.replicate_zero, List.set_cons_zero, List.set_cons_succ, List.length_nil, List.length_cons, Nat.zero_add, Nat.reduceAdd, List.nil_append, List.cons_append]
                refine go_aloadN e1_151 rfl rfl ?_
                refine go_getfield e1_152 (wd 35 rfl) rfl (j := 1) rfl ?_
                refine go_iload e1_155 rfl ?_
                refine go_iload e1_157 rfl ?_
                refine go_iastore e1_159 rfl (k := 0) (by decide) (Nat.le_of_ble_eq_true rfl) ?_
                simp only [List.replicate_succ, List.replicate_zero, List.set_cons_zero, List.set_cons_succ, List.length_nil, List.length_cons, Nat.zero_add, Nat.reduceAdd, List.nil_append, List.cons_append]
                refine go_aloadN e1_160 rfl rfl ?_
                refine go_getfield e1_161 (wd 38 rfl) rfl (j := 2) rfl ?_
                refine go_iload e1_164 rfl ?_
                refine go_lload e1_166 rfl ?_
                refine go_lastore e1_168 rfl (k := 0) (by decide) (Nat.le_of_ble_eq_true rfl) ?_
                simp only [List.replicate_succ, List.replicate_zero, List.set_cons_zero, List.set_cons_succ, List.length_nil, List.length_cons, Nat.zero_add, Nat.reduceAdd, List.nil_append, List.cons_append]
                refine go_lload e1_169 rfl ?_
                refine go_iload e1_171 rfl ?_
                refine go_i2l e1_173 ?_
                refine go_ladd e1_174 ?_
                refine go_lstore_6 e1_175 (Or.inr ⟨_, rfl⟩) rfl ?_
                refine go_iinc_8 e1_177 (z := 1) rfl ?_
                refine go_goto e1_180 (tg := 105) (by decide) ?_
                refine go_iload e1_105 rfl ?_
                refine go_iloadN e1_107 rfl ?_
                refine go_icgeN e1_108 (tg := 183) (by decide) (by decide) ?_
                refine go_aloadN e1_111 rfl rfl ?_
                refine go_aloadN e1_112 rfl rfl ?_
                refine go_len e1_113 rfl (n := 4) rfl ?_
                refine go_iconst e1_114 (x := 1) rfl ?_
                refine go_isub e1_115 ?_
                refine go_iload e1_116 rfl ?_
                refine go_isub e1_118 ?_
                refine go_iaload e1_119 rfl (k := 2) (by decide) rfl ?_
                refine go_istore_9 e1_120 rfl ?_
                refine go_iload e1_122 rfl ?_
                refine go_ifltN e1_124 (tg := 139) (by decide) (by decide) ?_
                refine go_iload e1_127 rfl ?_
                refine go_aloadN e1_129 rfl rfl ?_
                refine go_getfield e1_130 (wd 33 rfl) rfl (j := 0) rfl ?_
                refine go_iload e1_133 rfl ?_
                refine go_iaload e1_135 rfl (k := 0) (by decide) rfl ?_
                refine go_iceqY e1_136 (tg := 169) (by decide) (Int32.toInt_inj.mp (by omega)) ?_
                refine go_lload e1_169 rfl ?_
                refine go_iload e1_171 rfl ?_
                refine go_i2l e1_173 ?_
                refine go_ladd e1_174 ?_
                refine go_lstore_6 e1_175 (Or.inr ⟨_, rfl⟩) rfl ?_
                refine go_iinc_8 e1_177 (z := 1) rfl ?_
                refine go_goto e1_180 (tg := 105) (by decide) ?_
                refine go_iload e1_105 rfl ?_
                refine go_iloadN e1_107 rfl ?_
                refine go_icgeN e1_108 (tg := 183) (by decide) (by decide) ?_
                refine go_aloadN e1_111 rfl rfl ?_
                refine go_aloadN e1_112 rfl rfl ?_
                refine go_len e1_113 rfl (n := 4) rfl ?_
                refine go_iconst e1_114 (x := 1) rfl ?_
                refine go_isub e1_115 ?_
                refine go_iload e1_116 rfl ?_
                refine go_isub e1_118 ?_
                refine go_iaload e1_119 rfl (k := 1) (by decide) rfl ?_
                refine go_istore_9 e1_120 rfl ?_
                refine go_iload e1_122 rfl ?_
                refine go_ifltN e1_124 (tg := 139) (by decide) (by decide) ?_
                refine go_iload e1_127 rfl ?_
                refine go_aloadN e1_129 rfl rfl ?_
                refine go_getfield e1_130 (wd 33 rfl) rfl (j := 0) rfl ?_
                refine go_iload e1_133 rfl ?_
                refine go_iaload e1_135 rfl (k := 0) (by decide) rfl ?_
                refine go_iceqY e1_136 (tg := 169) (by decide) (Int32.toInt_inj.mp (by omega)) ?_
                refine go_lload e1_169 rfl ?_
                refine go_iload e1_171 rfl ?_
                refine go_i2l e1_173 ?_
                refine go_ladd e1_174 ?_
                refine go_lstore_6 e1_175 (Or.inr ⟨_, rfl⟩) rfl ?_
                refine go_iinc_8 e1_177 (z := 1) rfl ?_
                refine go_goto e1_180 (tg := 105) (by decide) ?_
                refine go_iload e1_105 rfl ?_
                refine go_iloadN e1_107 rfl ?_
                refine go_icgeN e1_108 (tg := 183) (by decide) (by decide) ?_
                refine go_aloadN e1_111 rfl rfl ?_
                refine go_aloadN e1_112 rfl rfl ?_
                refine go_len e1_113 rfl (n := 4) rfl ?_
                refine go_iconst e1_114 (x := 1) rfl ?_
                refine go_isub e1_115 ?_
                refine go_iload e1_116 rfl ?_
                refine go_isub e1_118 ?_
                refine go_iaload e1_119 rfl (k := 0) (by decide) rfl ?_
                refine go_istore_9 e1_120 rfl ?_
                refine go_iload e1_122 rfl ?_
                refine go_ifltN e1_124 (tg := 139) (by decide) (by decide) ?_
                refine go_iload e1_127 rfl ?_
                refine go_aloadN e1_129 rfl rfl ?_
                refine go_getfield e1_130 (wd 33 rfl) rfl (j := 0) rfl ?_
                refine go_iload e1_133 rfl ?_
                refine go_iaload e1_135 rfl (k := 0) (by decide) rfl ?_
                refine go_iceqY e1_136 (tg := 169) (by decide) (Int32.toInt_inj.mp (by omega)) ?_
                refine go_lload e1_169 rfl ?_
                refine go_iload e1_171 rfl ?_
                refine go_i2l e1_173 ?_
                refine go_ladd e1_174 ?_
                refine go_lstore_6 e1_175 (Or.inr ⟨_, rfl⟩) rfl ?_
                refine go_iinc_8 e1_177 (z := 1) rfl ?_
                refine go_goto e1_180 (tg := 105) (by decide) ?_
                refine go_iload e1_105 rfl ?_
                refine go_iloadN e1_107 rfl ?_
                refine go_icgeY e1_108 (tg := 183) (by decide) (by decide) ?_
                refine go_aloadN e1_183 rfl rfl ?_
                refine go_getfield e1_184 (wd 35 rfl) rfl (j := 1) rfl ?_
                refine go_iload e1_187 rfl ?_
                refine go_iloadN e1_189 rfl ?_
                refine go_iastore e1_190 rfl (k := 1) (by decide) (Nat.le_of_ble_eq_true rfl) ?_
                simp only [List.replicate_succ, List.replicate_zero, List.set_cons_zero, List.set_cons_succ, List.length_nil, List.length_cons, Nat.zero_add, Nat.reduceAdd, List.nil_append, List.cons_append]
                refine go_aloadN e1_191 rfl rfl ?_
                refine go_getfield e1_192 (wd 38 rfl) rfl (j := 2) rfl ?_
                refine go_iload e1_195 rfl ?_
                refine go_lload e1_197 rfl ?_
                refine go_lastore e1_199 rfl (k := 1) (by decide) (Nat.le_of_ble_eq_true rfl) ?_
                simp only [List.replicate_succ, List.replicate_zero, List.set_cons_zero, List.set_cons_succ, List.length_nil, List.length_cons, Nat.zero_add, Nat.reduceAdd, List.nil_append, List.cons_append]
                refine go_return e1_200 rfl (by decide) (by decide) ?_
                refine ⟨rfl, [s3], [0, 4], _, _, rfl, ?_, Nat.le_of_ble_eq_true rfl, ?_⟩
                · rw [hpm.1]; unfold own_D; simp only [List.length_cons, List.length_nil]; (repeat' split) <;> omega
                · exact ⟨⟨by omega, by show _ = own_cnt s3 r0 r1 r2 r3; rw [hpm.2 s3, show ((4 : Int32) - 0).toInt = 4 by decide]; unfold own_cnt; (repeat' split) <;> omega, by show 0 < own_cnt s3 r0 r1 r2 r3; rw [hpm.2 s3]; unfold own_cnt; (repeat' split) <;> omega, fun w hw => by cases hw⟩, trivial⟩
              · intro c56
                have d3 : s0.toInt ≠ s1.toInt := fun z => c56 (Int32.toInt_inj.mp z)
                refine go_iinc_4 e1_59 (z := 1) rfl ?_
                refine go_iinc_3 e1_62 (z := 1) rfl ?_
                refine go_goto e1_65 (tg := 21) (by decide) ?_
                refine go_iloadN e1_21 rfl ?_
                refine go_aloadN e1_22 rfl rfl ?_
                refine go_len e1_23 rfl (n := 4) rfl ?_
                refine go_icgeY e1_24 (tg := 68) (by decide) (by decide) ?_
                refine go_aloadN e1_68 rfl rfl ?_
                refine go_iload e1_69 rfl ?_
                refine go_newarray e1_71 (wd 0 rfl) (k := 2) rfl (vs := [.int 0, .int 0]) rfl (cap := 2) (by decide) (by decide) (by decide) (by decide) ?_
                simp only [List.replicate_succ, List.replicate_zero, List.set_cons_zero, List.set_cons_succ, List.length_nil, List.length_cons, Nat.zero_add, Nat.reduceAdd, List.nil_append, List.cons_append]
                refine go_putfield e1_73 (wd 33 rfl) (Or.inr ⟨(wd 34 rfl), rfl, rfl⟩) (wd 2 rfl) pf_8 rfl (j := 0) rfl rfl rfl ?_
                simp only [List.replicate_succ, List.replicate_zero, List.set_cons_zero, List.set_cons_succ, List.length_nil, List.length_cons, Nat.zero_add, Nat.reduceAdd, List.nil_append, List.cons_append]
                refine go_aloadN e1_76 rfl rfl ?_
                refine go_iload e1_77 rfl ?_
                refine go_iconst e1_79 (x := 1) rfl ?_
                refine go_iadd e1_80 ?_
                refine go_newarray e1_81 (wd 0 rfl) (k := 3) rfl (vs := [.int 0, .int 0, .int 0]) rfl (cap := 3) (by decide) (by decide) (by decide) (by decide) ?_
                simp only [List.replicate_succ, List.replicate_zero, List.set_cons_zero, List.set_cons_succ, List.length_nil, List.length_cons, Nat.zero_add, Nat.reduceAdd, List.nil_append, List.cons_append]
                refine go_putfield e1_83 (wd 35 rfl) (Or.inr ⟨(wd 36 rfl), rfl, rfl⟩) (wd 2 rfl) pf_8 rfl (j := 1) rfl rfl rfl ?_
                simp only [List.replicate_succ, List.replicate_zero, List.set_cons_zero, List.set_cons_succ, List.length_nil, List.length_cons, Nat.zero_add, Nat.reduceAdd, List.nil_append, List.cons_append]
                refine go_aloadN e1_86 rfl rfl ?_
                refine go_iload e1_87 rfl ?_
                refine go_iconst e1_89 (x := 1) rfl ?_
                refine go_iadd e1_90 ?_
                refine go_newarray e1_91 (wd 37 rfl) (k := 3) rfl (vs := [.long 0, .long 0, .long 0]) rfl (cap := 3) (by decide) (by decide) (by decide) (by decide) ?_
                simp only [List.replicate_succ, List.replicate_zero, List.set_cons_zero, List.set_cons_succ, List.length_nil, List.length_cons, Nat.zero_add, Nat.reduceAdd, List.nil_append, List.cons_append]
                refine go_putfield e1_93 (wd 38 rfl) (Or.inr ⟨(wd 39 rfl), rfl, rfl⟩) (wd 2 rfl) pf_9 rfl (j := 2) rfl rfl rfl ?_
                simp only [List.replicate_succ, List.replicate_zero, List.set_cons_zero, List.set_cons_succ, List.length_nil, List.length_cons, Nat.zero_add, Nat.reduceAdd, List.nil_append, List.cons_append]
                refine go_iconst e1_96 (x := (-1)) rfl ?_
                refine go_istore_5 e1_97 rfl ?_
                refine go_lconst e1_99 (x := 0) rfl ?_
                refine go_lstore_6 e1_100 (Or.inl rfl) rfl ?_
                refine go_iconst e1_102 (x := 0) rfl ?_
                refine go_istore_8 e1_103 rfl ?_
                refine go_iload e1_105 rfl ?_
                refine go_iloadN e1_107 rfl ?_
                refine go_icgeN e1_108 (tg := 183) (by decide) (by decide) ?_
                refine go_aloadN e1_111 rfl rfl ?_
                refine go_aloadN e1_112 rfl rfl ?_
                refine go_len e1_113 rfl (n := 4) rfl ?_
                refine go_iconst e1_114 (x := 1) rfl ?_
                refine go_isub e1_115 ?_
                refine go_iload e1_116 rfl ?_
                refine go_isub e1_118 ?_
                refine go_iaload e1_119 rfl (k := 3) (by decide) rfl ?_
                refine go_istore_9 e1_120 rfl ?_
                refine go_iload e1_122 rfl ?_
                refine go_ifltY e1_124 (tg := 139) (by decide) (by decide) ?_
                refine go_iinc_5 e1_139 (z := 1) rfl ?_
                refine go_aloadN e1_142 rfl rfl ?_
                refine go_getfield e1_143 (wd 33 rfl) rfl (j := 0) rfl ?_
                refine go_iload e1_146 rfl ?_
                refine go_iload e1_148 rfl ?_
                refine go_iastore e1_150 rfl (k := 0) (by decide) (Nat.le_of_ble_eq_true rfl) ?_
                simp only [List.replicate_succ, List.replicate_zero, List.set_cons_zero, List.set_cons_succ, List.length_nil, List.length_cons, Nat.zero_add, Nat.reduceAdd, List.nil_append, List.cons_append]
                refine go_aloadN e1_151 rfl rfl ?_
                refine go_getfield e1_152 (wd 35 rfl) rfl (j := 1) rfl ?_
                refine go_iload e1_155 rfl ?_
                refine go_iload e1_157 rfl ?_
                refine go_iastore e1_159 rfl (k := 0) (by decide) (Nat.le_of_ble_eq_true rfl) ?_
                simp only [List.replicate_succ, List.replicate_zero, List.set_cons_zero, List.set_cons_succ, List.length_nil, List.length_cons, Nat.zero_add, Nat.reduceAdd, List.nil_append, List.cons_append]
                refine go_aloadN e1_160 rfl rfl ?_
                refine go_getfield e1_161 (wd 38 rfl) rfl (j := 2) rfl ?_
                refine go_iload e1_164 rfl ?_
                refine go_lload e1_166 rfl ?_
                refine go_lastore e1_168 rfl (k := 0) (by decide) (Nat.le_of_ble_eq_true rfl) ?_
                simp only [List.replicate_succ, List.replicate_zero, List.set_cons_zero, List.set_cons_succ, List.length_nil, List.length_cons, Nat.zero_add, Nat.reduceAdd, List.nil_append, List.cons_append]
                refine go_lload e1_169 rfl ?_
                refine go_iload e1_171 rfl ?_
                refine go_i2l e1_173 ?_
                refine go_ladd e1_174 ?_
                refine go_lstore_6 e1_175 (Or.inr ⟨_, rfl⟩) rfl ?_
                refine go_iinc_8 e1_177 (z := 1) rfl ?_
                refine go_goto e1_180 (tg := 105) (by decide) ?_
                refine go_iload e1_105 rfl ?_
                refine go_iloadN e1_107 rfl ?_
                refine go_icgeN e1_108 (tg := 183) (by decide) (by decide) ?_
                refine go_aloadN e1_111 rfl rfl ?_
                refine go_aloadN e1_112 rfl rfl ?_
                refine go_len e1_113 rfl (n := 4) rfl ?_
                refine go_iconst e1_114 (x := 1) rfl ?_
                refine go_isub e1_115 ?_
                refine go_iload e1_116 rfl ?_
                refine go_isub e1_118 ?_
                refine go_iaload e1_119 rfl (k := 2) (by decide) rfl ?_
                refine go_istore_9 e1_120 rfl ?_
                refine go_iload e1_122 rfl ?_
                refine go_ifltN e1_124 (tg := 139) (by decide) (by decide) ?_
                refine go_iload e1_127 rfl ?_
                refine go_aloadN e1_129 rfl rfl ?_
                refine go_getfield e1_130 (wd 33 rfl) rfl (j := 0) rfl ?_
                refine go_iload e1_133 rfl ?_
                refine go_iaload e1_135 rfl (k := 0) (by decide) rfl ?_
                refine go_iceqY e1_136 (tg := 169) (by decide) (Int32.toInt_inj.mp (by omega)) ?_
                refine go_lload e1_169 rfl ?_
                refine go_iload e1_171 rfl ?_
                refine go_i2l e1_173 ?_
                refine go_ladd e1_174 ?_
                refine go_lstore_6 e1_175 (Or.inr ⟨_, rfl⟩) rfl ?_
                refine go_iinc_8 e1_177 (z := 1) rfl ?_
                refine go_goto e1_180 (tg := 105) (by decide) ?_
                refine go_iload e1_105 rfl ?_
                refine go_iloadN e1_107 rfl ?_
                refine go_icgeN e1_108 (tg := 183) (by decide) (by decide) ?_
                refine go_aloadN e1_111 rfl rfl ?_
                refine go_aloadN e1_112 rfl rfl ?_
                refine go_len e1_113 rfl (n := 4) rfl ?_
                refine go_iconst e1_114 (x := 1) rfl ?_
                refine go_isub e1_115 ?_
                refine go_iload e1_116 rfl ?_
                refine go_isub e1_118 ?_
                refine go_iaload e1_119 rfl (k := 1) (by decide) rfl ?_
                refine go_istore_9 e1_120 rfl ?_
                refine go_iload e1_122 rfl ?_
                refine go_ifltN e1_124 (tg := 139) (by decide) (by decide) ?_
                refine go_iload e1_127 rfl ?_
                refine go_aloadN e1_129 rfl rfl ?_
                refine go_getfield e1_130 (wd 33 rfl) rfl (j := 0) rfl ?_
                refine go_iload e1_133 rfl ?_
                refine go_iaload e1_135 rfl (k := 0) (by decide) rfl ?_
                refine go_iceqY e1_136 (tg := 169) (by decide) (Int32.toInt_inj.mp (by omega)) ?_
                refine go_lload e1_169 rfl ?_
                refine go_iload e1_171 rfl ?_
                refine go_i2l e1_173 ?_
                refine go_ladd e1_174 ?_
                refine go_lstore_6 e1_175 (Or.inr ⟨_, rfl⟩) rfl ?_
                refine go_iinc_8 e1_177 (z := 1) rfl ?_
                refine go_goto e1_180 (tg := 105) (by decide) ?_
                refine go_iload e1_105 rfl ?_
                refine go_iloadN e1_107 rfl ?_
                refine go_icgeN e1_108 (tg := 183) (by decide) (by decide) ?_
                refine go_aloadN e1_111 rfl rfl ?_
                refine go_aloadN e1_112 rfl rfl ?_
                refine go_len e1_113 rfl (n := 4) rfl ?_
                refine go_iconst e1_114 (x := 1) rfl ?_
                refine go_isub e1_115 ?_
                refine go_iload e1_116 rfl ?_
                refine go_isub e1_118 ?_
                refine go_iaload e1_119 rfl (k := 0) (by decide) rfl ?_
                refine go_istore_9 e1_120 rfl ?_
                refine go_iload e1_122 rfl ?_
                refine go_ifltN e1_124 (tg := 139) (by decide) (by decide) ?_
                refine go_iload e1_127 rfl ?_
                refine go_aloadN e1_129 rfl rfl ?_
                refine go_getfield e1_130 (wd 33 rfl) rfl (j := 0) rfl ?_
                refine go_iload e1_133 rfl ?_
                refine go_iaload e1_135 rfl (k := 0) (by decide) rfl ?_
                refine go_iceqN e1_136 (tg := 169) (by decide) (fun h => by have := congrArg Int32.toInt h; omega) ?_
                refine go_iinc_5 e1_139 (z := 1) rfl ?_
                refine go_aloadN e1_142 rfl rfl ?_
                refine go_getfield e1_143 (wd 33 rfl) rfl (j := 0) rfl ?_
                refine go_iload e1_146 rfl ?_
                refine go_iload e1_148 rfl ?_
                refine go_iastore e1_150 rfl (k := 1) (by decide) (Nat.le_of_ble_eq_true rfl) ?_
                simp only [List.replicate_succ, List.replicate_zero, List.set_cons_zero, List.set_cons_succ, List.length_nil, List.length_cons, Nat.zero_add, Nat.reduceAdd, List.nil_append, List.cons_append]
                refine go_aloadN e1_151 rfl rfl ?_
                refine go_getfield e1_152 (wd 35 rfl) rfl (j := 1) rfl ?_
                refine go_iload e1_155 rfl ?_
                refine go_iload e1_157 rfl ?_
                refine go_iastore e1_159 rfl (k := 1) (by decide) (Nat.le_of_ble_eq_true rfl) ?_
                simp only [List.replicate_succ, List.replicate_zero, List.set_cons_zero, List.set_cons_succ, List.length_nil, List.length_cons, Nat.zero_add, Nat.reduceAdd, List.nil_append, List.cons_append]
                refine go_aloadN e1_160 rfl rfl ?_
                refine go_getfield e1_161 (wd 38 rfl) rfl (j := 2) rfl ?_
                refine go_iload e1_164 rfl ?_
                refine go_lload e1_166 rfl ?_
                refine go_lastore e1_168 rfl (k := 1) (by decide) (Nat.le_of_ble_eq_true rfl) ?_
                simp only [List.replicate_succ, List.replicate_zero, List.set_cons_zero, List.set_cons_succ, List.length_nil, List.length_cons, Nat.zero_add, Nat.reduceAdd, List.nil_append, List.cons_append]
                refine go_lload e1_169 rfl ?_
                refine go_iload e1_171 rfl ?_
                refine go_i2l e1_173 ?_
                refine go_ladd e1_174 ?_
                refine go_lstore_6 e1_175 (Or.inr ⟨_, rfl⟩) rfl ?_
                refine go_iinc_8 e1_177 (z := 1) rfl ?_
                refine go_goto e1_180 (tg := 105) (by decide) ?_
                refine go_iload e1_105 rfl ?_
                refine go_iloadN e1_107 rfl ?_
                refine go_icgeY e1_108 (tg := 183) (by decide) (by decide) ?_
                refine go_aloadN e1_183 rfl rfl ?_
                refine go_getfield e1_184 (wd 35 rfl) rfl (j := 1) rfl ?_
                refine go_iload e1_187 rfl ?_
                refine go_iloadN e1_189 rfl ?_
                refine go_iastore e1_190 rfl (k := 2) (by decide) (Nat.le_of_ble_eq_true rfl) ?_
                simp only [List.replicate_succ, List.replicate_zero, List.set_cons_zero, List.set_cons_succ, List.length_nil, List.length_cons, Nat.zero_add, Nat.reduceAdd, List.nil_append, List.cons_append]
                refine go_aloadN e1_191 rfl rfl ?_
                refine go_getfield e1_192 (wd 38 rfl) rfl (j := 2) rfl ?_
                refine go_iload e1_195 rfl ?_
                refine go_lload e1_197 rfl ?_
                refine go_lastore e1_199 rfl (k := 2) (by decide) (Nat.le_of_ble_eq_true rfl) ?_
                simp only [List.replicate_succ, List.replicate_zero, List.set_cons_zero, List.set_cons_succ, List.length_nil, List.length_cons, Nat.zero_add, Nat.reduceAdd, List.nil_append, List.cons_append]
                refine go_return e1_200 rfl (by decide) (by decide) ?_
                refine ⟨rfl, [s3, s0], [0, 3, 4], _, _, rfl, ?_, Nat.le_of_ble_eq_true rfl, ?_⟩
                · rw [hpm.1]; unfold own_D; simp only [List.length_cons, List.length_nil]; (repeat' split) <;> omega
                · exact ⟨⟨by omega, by show _ = own_cnt s3 r0 r1 r2 r3; rw [hpm.2 s3, show ((3 : Int32) - 0).toInt = 3 by decide]; unfold own_cnt; (repeat' split) <;> omega, by show 0 < own_cnt s3 r0 r1 r2 r3; rw [hpm.2 s3]; unfold own_cnt; (repeat' split) <;> omega, fun w hw => by cases hw; omega⟩, ⟨⟨by omega, by show _ = own_cnt s0 r0 r1 r2 r3; rw [hpm.2 s0, show ((4 : Int32) - 3).toInt = 1 by decide]; unfold own_cnt; (repeat' split) <;> omega, by show 0 < own_cnt s0 r0 r1 r2 r3; rw [hpm.2 s0]; unfold own_cnt; (repeat' split) <;> omega, fun w hw => by cases hw⟩, trivial⟩⟩
          · intro c56
            have d2 : s1.toInt ≠ s2.toInt := fun z => c56 (Int32.toInt_inj.mp z)
            refine go_iinc_4 e1_59 (z := 1) rfl ?_
            refine go_iinc_3 e1_62 (z := 1) rfl ?_
            refine go_goto e1_65 (tg := 21) (by decide) ?_
            refine go_iloadN e1_21 rfl ?_
            refine go_aloadN e1_22 rfl rfl ?_
            refine go_len e1_23 rfl (n := 4) rfl ?_
            refine go_icgeN e1_24 (tg := 68) (by decide) (by decide) ?_
            refine go_aloadN e1_27 rfl rfl ?_
            refine go_aloadN e1_28 rfl rfl ?_
            refine go_len e1_29 rfl (n := 4) rfl ?_
            refine go_iconst e1_30 (x := 1) rfl ?_
            refine go_isub e1_31 ?_
            refine go_iloadN e1_32 rfl ?_
            refine go_isub e1_33 ?_
            refine go_iaload e1_34 rfl (k := 0) (by decide) rfl ?_
            refine go_ifle e1_35 (tg := 68) (by decide) ?_ ?_
            · intro z3
              refine go_aloadN e1_68 rfl rfl ?_
              refine go_iload e1_69 rfl ?_
              refine go_newarray e1_71 (wd 0 rfl) (k := 2) rfl (vs := [.int 0, .int 0]) rfl (cap := 2) (by decide) (by decide) (by decide) (by decide) ?_
              simp only [List.replicate_succ, List.replicate_zero, List.set_cons_zero, List.set_cons_succ, List.length_nil, List.length_cons, Nat.zero_add, Nat.reduceAdd, List.nil_append, List.cons_append]
              refine go_putfield e1_73 (wd 33 rfl) (Or.inr ⟨(wd 34 rfl), rfl, rfl⟩) (wd 2 rfl) pf_8 rfl (j := 0) rfl rfl rfl ?_
              simp only [List.replicate_succ, List.replicate_zero, List.set_cons_zero, List.set_cons_succ, List.length_nil, List.length_cons, Nat.zero_add, Nat.reduceAdd, List.nil_append, List.cons_append]
              refine go_aloadN e1_76 rfl rfl ?_
              refine go_iload e1_77 rfl ?_
              refine go_iconst e1_79 (x := 1) rfl ?_
              refine go_iadd e1_80 ?_
              refine go_newarray e1_81 (wd 0 rfl) (k := 3) rfl (vs := [.int 0, .int 0, .int 0]) rfl (cap := 3) (by decide) (by decide) (by decide) (by decide) ?_
              simp only [List.replicate_succ, List.replicate_zero, List.set_cons_zero, List.set_cons_succ, List.length_nil, List.length_cons, Nat.zero_add, Nat.reduceAdd, List.nil_append, List.cons_append]
              refine go_putfield e1_83 (wd 35 rfl) (Or.inr ⟨(wd 36 rfl), rfl, rfl⟩) (wd 2 rfl) pf_8 rfl (j := 1) rfl rfl rfl ?_
              simp only [List.replicate_succ, List.replicate_zero, List.set_cons_zero, List.set_cons_succ, List.length_nil, List.length_cons, Nat.zero_add, Nat.reduceAdd, List.nil_append, List.cons_append]
              refine go_aloadN e1_86 rfl rfl ?_
              refine go_iload e1_87 rfl ?_
              refine go_iconst e1_89 (x := 1) rfl ?_
              refine go_iadd e1_90 ?_
              refine go_newarray e1_91 (wd 37 rfl) (k := 3) rfl (vs := [.long 0, .long 0, .long 0]) rfl (cap := 3) (by decide) (by decide) (by decide) (by decide) ?_
              simp only [List.replicate_succ, List.replicate_zero, List.set_cons_zero, List.set_cons_succ, List.length_nil, List.length_cons, Nat.zero_add, Nat.reduceAdd, List.nil_append, List.cons_append]
              refine go_putfield e1_93 (wd 38 rfl) (Or.inr ⟨(wd 39 rfl), rfl, rfl⟩) (wd 2 rfl) pf_9 rfl (j := 2) rfl rfl rfl ?_
              simp only [List.replicate_succ, List.replicate_zero, List.set_cons_zero, List.set_cons_succ, List.length_nil, List.length_cons, Nat.zero_add, Nat.reduceAdd, List.nil_append, List.cons_append]
              refine go_iconst e1_96 (x := (-1)) rfl ?_
              refine go_istore_5 e1_97 rfl ?_
              refine go_lconst e1_99 (x := 0) rfl ?_
              refine go_lstore_6 e1_100 (Or.inl rfl) rfl ?_
              refine go_iconst e1_102 (x := 0) rfl ?_
              refine go_istore_8 e1_103 rfl ?_
              refine go_iload e1_105 rfl ?_
              refine go_iloadN e1_107 rfl ?_
              refine go_icgeN e1_108 (tg := 183) (by decide) (by decide) ?_
              refine go_aloadN e1_111 rfl rfl ?_
              refine go_aloadN e1_112 rfl rfl ?_
              refine go_len e1_113 rfl (n := 4) rfl ?_
              refine go_iconst e1_114 (x := 1) rfl ?_
              refine go_isub e1_115 ?_
              refine go_iload e1_116 rfl ?_
              refine go_isub e1_118 ?_
              refine go_iaload e1_119 rfl (k := 3) (by decide) rfl ?_
              refine go_istore_9 e1_120 rfl ?_
              refine go_iload e1_122 rfl ?_
              refine go_ifltY e1_124 (tg := 139) (by decide) (by decide) ?_
              refine go_iinc_5 e1_139 (z := 1) rfl ?_
              refine go_aloadN e1_142 rfl rfl ?_
              refine go_getfield e1_143 (wd 33 rfl) rfl (j := 0) rfl ?_
              refine go_iload e1_146 rfl ?_
              refine go_iload e1_148 rfl ?_
              refine go_iastore e1_150 rfl (k := 0) (by decide) (Nat.le_of_ble_eq_true rfl) ?_
              simp only [List.replicate_succ, List.replicate_zero, List.set_cons_zero, List.set_cons_succ, List.length_nil, List.length_cons, Nat.zero_add, Nat.reduceAdd, List.nil_append, List.cons_append]
              refine go_aloadN e1_151 rfl rfl ?_
              refine go_getfield e1_152 (wd 35 rfl) rfl (j := 1) rfl ?_
              refine go_iload e1_155 rfl ?_
              refine go_iload e1_157 rfl ?_
              refine go_iastore e1_159 rfl (k := 0) (by decide) (Nat.le_of_ble_eq_true rfl) ?_
              simp only [List.replicate_succ, List.replicate_zero, List.set_cons_zero, List.set_cons_succ, List.length_nil, List.length_cons, Nat.zero_add, Nat.reduceAdd, List.nil_append, List.cons_append]
              refine go_aloadN e1_160 rfl rfl ?_
              refine go_getfield e1_161 (wd 38 rfl) rfl (j := 2) rfl ?_
              refine go_iload e1_164 rfl ?_
              refine go_lload e1_166 rfl ?_
              refine go_lastore e1_168 rfl (k := 0) (by decide) (Nat.le_of_ble_eq_true rfl) ?_
              simp only [List.replicate_succ, List.replicate_zero, List.set_cons_zero, List.set_cons_succ, List.length_nil, List.length_cons, Nat.zero_add, Nat.reduceAdd, List.nil_append, List.cons_append]
              refine go_lload e1_169 rfl ?_
              refine go_iload e1_171 rfl ?_
              refine go_i2l e1_173 ?_
              refine go_ladd e1_174 ?_
              refine go_lstore_6 e1_175 (Or.inr ⟨_, rfl⟩) rfl ?_
              refine go_iinc_8 e1_177 (z := 1) rfl ?_
              refine go_goto e1_180 (tg := 105) (by decide) ?_
              refine go_iload e1_105 rfl ?_
              refine go_iloadN e1_107 rfl ?_
              refine go_icgeN e1_108 (tg := 183) (by decide) (by decide) ?_
              refine go_aloadN e1_111 rfl rfl ?_
              refine go_aloadN e1_112 rfl rfl ?_
              refine go_len e1_113 rfl (n := 4) rfl ?_
              refine go_iconst e1_114 (x := 1) rfl ?_
              refine go_isub e1_115 ?_
              refine go_iload e1_116 rfl ?_
              refine go_isub e1_118 ?_
              refine go_iaload e1_119 rfl (k := 2) (by decide) rfl ?_
              refine go_istore_9 e1_120 rfl ?_
              refine go_iload e1_122 rfl ?_
              refine go_ifltN e1_124 (tg := 139) (by decide) (by decide) ?_
              refine go_iload e1_127 rfl ?_
              refine go_aloadN e1_129 rfl rfl ?_
              refine go_getfield e1_130 (wd 33 rfl) rfl (j := 0) rfl ?_
              refine go_iload e1_133 rfl ?_
              refine go_iaload e1_135 rfl (k := 0) (by decide) rfl ?_
              refine go_iceqY e1_136 (tg := 169) (by decide) (Int32.toInt_inj.mp (by omega)) ?_
              refine go_lload e1_169 rfl ?_
              refine go_iload e1_171 rfl ?_
              refine go_i2l e1_173 ?_
              refine go_ladd e1_174 ?_
              refine go_lstore_6 e1_175 (Or.inr ⟨_, rfl⟩) rfl ?_
              refine go_iinc_8 e1_177 (z := 1) rfl ?_
              refine go_goto e1_180 (tg := 105) (by decide) ?_
              refine go_iload e1_105 rfl ?_
              refine go_iloadN e1_107 rfl ?_
              refine go_icgeN e1_108 (tg := 183) (by decide) (by decide) ?_
              refine go_aloadN e1_111 rfl rfl ?_
              refine go_aloadN e1_112 rfl rfl ?_
              refine go_len e1_113 rfl (n := 4) rfl ?_
              refine go_iconst e1_114 (x := 1) rfl ?_
              refine go_isub e1_115 ?_
              refine go_iload e1_116 rfl ?_
              refine go_isub e1_118 ?_
              refine go_iaload e1_119 rfl (k := 1) (by decide) rfl ?_
              refine go_istore_9 e1_120 rfl ?_
              refine go_iload e1_122 rfl ?_
              refine go_ifltN e1_124 (tg := 139) (by decide) (by decide) ?_
              refine go_iload e1_127 rfl ?_
              refine go_aloadN e1_129 rfl rfl ?_
              refine go_getfield e1_130 (wd 33 rfl) rfl (j := 0) rfl ?_
              refine go_iload e1_133 rfl ?_
              refine go_iaload e1_135 rfl (k := 0) (by decide) rfl ?_
              refine go_iceqN e1_136 (tg := 169) (by decide) (fun h => by have := congrArg Int32.toInt h; omega) ?_
              refine go_iinc_5 e1_139 (z := 1) rfl ?_
              refine go_aloadN e1_142 rfl rfl ?_
              refine go_getfield e1_143 (wd 33 rfl) rfl (j := 0) rfl ?_
              refine go_iload e1_146 rfl ?_
              refine go_iload e1_148 rfl ?_
              refine go_iastore e1_150 rfl (k := 1) (by decide) (Nat.le_of_ble_eq_true rfl) ?_
              simp only [List.replicate_succ, List.replicate_zero, List.set_cons_zero, List.set_cons_succ, List.length_nil, List.length_cons, Nat.zero_add, Nat.reduceAdd, List.nil_append, List.cons_append]
              refine go_aloadN e1_151 rfl rfl ?_
              refine go_getfield e1_152 (wd 35 rfl) rfl (j := 1) rfl ?_
              refine go_iload e1_155 rfl ?_
              refine go_iload e1_157 rfl ?_
              refine go_iastore e1_159 rfl (k := 1) (by decide) (Nat.le_of_ble_eq_true rfl) ?_
              simp only [List.replicate_succ, List.replicate_zero, List.set_cons_zero, List.set_cons_succ, List.length_nil, List.length_cons, Nat.zero_add, Nat.reduceAdd, List.nil_append, List.cons_append]
              refine go_aloadN e1_160 rfl rfl ?_
              refine go_getfield e1_161 (wd 38 rfl) rfl (j := 2) rfl ?_
              refine go_iload e1_164 rfl ?_
              refine go_lload e1_166 rfl ?_
              refine go_lastore e1_168 rfl (k := 1) (by decide) (Nat.le_of_ble_eq_true rfl) ?_
              simp only [List.replicate_succ, List.replicate_zero, List.set_cons_zero, List.set_cons_succ, List.length_nil, List.length_cons, Nat.zero_add, Nat.reduceAdd, List.nil_append, List.cons_append]
              refine go_lload e1_169 rfl ?_
              refine go_iload e1_171 rfl ?_
              refine go_i2l e1_173 ?_
              refine go_ladd e1_174 ?_
              refine go_lstore_6 e1_175 (Or.inr ⟨_, rfl⟩) rfl ?_
              refine go_iinc_8 e1_177 (z := 1) rfl ?_
              refine go_goto e1_180 (tg := 105) (by decide) ?_
              refine go_iload e1_105 rfl ?_
              refine go_iloadN e1_107 rfl ?_
              refine go_icgeY e1_108 (tg := 183) (by decide) (by decide) ?_
              refine go_aloadN e1_183 rfl rfl ?_
              refine go_getfield e1_184 (wd 35 rfl) rfl (j := 1) rfl ?_
              refine go_iload e1_187 rfl ?_
              refine go_iloadN e1_189 rfl ?_
              refine go_iastore e1_190 rfl (k := 2) (by decide) (Nat.le_of_ble_eq_true rfl) ?_
              simp only [List.replicate_succ, List.replicate_zero, List.set_cons_zero, List.set_cons_succ, List.length_nil, List.length_cons, Nat.zero_add, Nat.reduceAdd, List.nil_append, List.cons_append]
              refine go_aloadN e1_191 rfl rfl ?_
              refine go_getfield e1_192 (wd 38 rfl) rfl (j := 2) rfl ?_
              refine go_iload e1_195 rfl ?_
              refine go_lload e1_197 rfl ?_
              refine go_lastore e1_199 rfl (k := 2) (by decide) (Nat.le_of_ble_eq_true rfl) ?_
              simp only [List.replicate_succ, List.replicate_zero, List.set_cons_zero, List.set_cons_succ, List.length_nil, List.length_cons, Nat.zero_add, Nat.reduceAdd, List.nil_append, List.cons_append]
              refine go_return e1_200 rfl (by decide) (by decide) ?_
              refine ⟨rfl, [s3, s1], [0, 2, 3], _, _, rfl, ?_, Nat.le_of_ble_eq_true rfl, ?_⟩
              · rw [hpm.1]; unfold own_D; simp only [List.length_cons, List.length_nil]; (repeat' split) <;> omega
              · exact ⟨⟨by omega, by show _ = own_cnt s3 r0 r1 r2 r3; rw [hpm.2 s3, show ((2 : Int32) - 0).toInt = 2 by decide]; unfold own_cnt; (repeat' split) <;> omega, by show 0 < own_cnt s3 r0 r1 r2 r3; rw [hpm.2 s3]; unfold own_cnt; (repeat' split) <;> omega, fun w hw => by cases hw; omega⟩, ⟨⟨by omega, by show _ = own_cnt s1 r0 r1 r2 r3; rw [hpm.2 s1, show ((3 : Int32) - 2).toInt = 1 by decide]; unfold own_cnt; (repeat' split) <;> omega, by show 0 < own_cnt s1 r0 r1 r2 r3; rw [hpm.2 s1]; unfold own_cnt; (repeat' split) <;> omega, fun w hw => by cases hw⟩, trivial⟩⟩
            · intro z3
              refine go_iloadN e1_38 rfl ?_
              refine go_ifeqN e1_39 (tg := 59) (by decide) (by decide) ?_
              refine go_aloadN e1_42 rfl rfl ?_
              refine go_aloadN e1_43 rfl rfl ?_
              refine go_len e1_44 rfl (n := 4) rfl ?_
              refine go_iconst e1_45 (x := 1) rfl ?_
              refine go_isub e1_46 ?_
              refine go_iloadN e1_47 rfl ?_
              refine go_isub e1_48 ?_
              refine go_iaload e1_49 rfl (k := 0) (by decide) rfl ?_
              refine go_aloadN e1_50 rfl rfl ?_
              refine go_aloadN e1_51 rfl rfl ?_
              refine go_len e1_52 rfl (n := 4) rfl ?_
              refine go_iloadN e1_53 rfl ?_
              refine go_isub e1_54 ?_
              refine go_iaload e1_55 rfl (k := 1) (by decide) rfl ?_
              refine go_iceq e1_56 (tg := 62) (by decide) ?_ ?_
              · intro c56
                have d3 := congrArg Int32.toInt c56
                refine go_iinc_3 e1_62 (z := 1) rfl ?_
                refine go_goto e1_65 (tg := 21) (by decide) ?_
                refine go_iloadN e1_21 rfl ?_
                refine go_aloadN e1_22 rfl rfl ?_
                refine go_len e1_23 rfl (n := 4) rfl ?_
                refine go_icgeY e1_24 (tg := 68) (by decide) (by decide) ?_
                refine go_aloadN e1_68 rfl rfl ?_
                refine go_iload e1_69 rfl ?_
                refine go_newarray e1_71 (wd 0 rfl) (k := 2) rfl (vs := [.int 0, .int 0]) rfl (cap := 2) (by decide) (by decide) (by decide) (by decide) ?_
                simp only [List.replicate_succ, List.replicate_zero, List.set_cons_zero, List.set_cons_succ, List.length_nil, List.length_cons, Nat.zero_add, Nat.reduceAdd, List.nil_append, List.cons_append]
                refine go_putfield e1_73 (wd 33 rfl) (Or.inr ⟨(wd 34 rfl), rfl, rfl⟩) (wd 2 rfl) pf_8 rfl (j := 0) rfl rfl rfl ?_
                simp only [List.replicate_succ, List.replicate_zero, List.set_cons_zero, List.set_cons_succ, List.length_nil, List.length_cons, Nat.zero_add, Nat.reduceAdd, List.nil_append, List.cons_append]
                refine go_aloadN e1_76 rfl rfl ?_
                refine go_iload e1_77 rfl ?_
                refine go_iconst e1_79 (x := 1) rfl ?_
                refine go_iadd e1_80 ?_
                refine go_newarray e1_81 (wd 0 rfl) (k := 3) rfl (vs := [.int 0, .int 0, .int 0]) rfl (cap := 3) (by decide) (by decide) (by decide) (by decide) ?_
                simp only [List.replicate_succ, List.replicate_zero, List.set_cons_zero, List.set_cons_succ, List.length_nil, List.length_cons, Nat.zero_add, Nat.reduceAdd, List.nil_append, List.cons_append]
                refine go_putfield e1_83 (wd 35 rfl) (Or.inr ⟨(wd 36 rfl), rfl, rfl⟩) (wd 2 rfl) pf_8 rfl (j := 1) rfl rfl rfl ?_
                simp only [List.replicate_succ, List.replicate_zero, List.set_cons_zero, List.set_cons_succ, List.length_nil, List.length_cons, Nat.zero_add, Nat.reduceAdd, List.nil_append, List.cons_append]
                refine go_aloadN e1_86 rfl rfl ?_
                refine go_iload e1_87 rfl ?_
                refine go_iconst e1_89 (x := 1) rfl ?_
                refine go_iadd e1_90 ?_
                refine go_newarray e1_91 (wd 37 rfl) (k := 3) rfl (vs := [.long 0, .long 0, .long 0]) rfl (cap := 3) (by decide) (by decide) (by decide) (by decide) ?_
                simp only [List.replicate_succ, List.replicate_zero, List.set_cons_zero, List.set_cons_succ, List.length_nil, List.length_cons, Nat.zero_add, Nat.reduceAdd, List.nil_append, List.cons_append]
                refine go_putfield e1_93 (wd 38 rfl) (Or.inr ⟨(wd 39 rfl), rfl, rfl⟩) (wd 2 rfl) pf_9 rfl (j := 2) rfl rfl rfl ?_
                simp only [List.replicate_succ, List.replicate_zero, List.set_cons_zero, List.set_cons_succ, List.length_nil, List.length_cons, Nat.zero_add, Nat.reduceAdd, List.nil_append, List.cons_append]
                refine go_iconst e1_96 (x := (-1)) rfl ?_
                refine go_istore_5 e1_97 rfl ?_
                refine go_lconst e1_99 (x := 0) rfl ?_
                refine go_lstore_6 e1_100 (Or.inl rfl) rfl ?_
                refine go_iconst e1_102 (x := 0) rfl ?_
                refine go_istore_8 e1_103 rfl ?_
                refine go_iload e1_105 rfl ?_
                refine go_iloadN e1_107 rfl ?_
                refine go_icgeN e1_108 (tg := 183) (by decide) (by decide) ?_
                refine go_aloadN e1_111 rfl rfl ?_
                refine go_aloadN e1_112 rfl rfl ?_
                refine go_len e1_113 rfl (n := 4) rfl ?_
                refine go_iconst e1_114 (x := 1) rfl ?_
                refine go_isub e1_115 ?_
                refine go_iload e1_116 rfl ?_
                refine go_isub e1_118 ?_
                refine go_iaload e1_119 rfl (k := 3) (by decide) rfl ?_
                refine go_istore_9 e1_120 rfl ?_
                refine go_iload e1_122 rfl ?_
                refine go_ifltY e1_124 (tg := 139) (by decide) (by decide) ?_
                refine go_iinc_5 e1_139 (z := 1) rfl ?_
                refine go_aloadN e1_142 rfl rfl ?_
                refine go_getfield e1_143 (wd 33 rfl) rfl (j := 0) rfl ?_
                refine go_iload e1_146 rfl ?_
                refine go_iload e1_148 rfl ?_
                refine go_iastore e1_150 rfl (k := 0) (by decide) (Nat.le_of_ble_eq_true rfl) ?_
                simp only [List.replicate_succ, List.replicate_zero, List.set_cons_zero, List.set_cons_succ, List.length_nil, List.length_cons, Nat.zero_add, Nat.reduceAdd, List.nil_append, List.cons_append]
                refine go_aloadN e1_151 rfl rfl ?_
                refine go_getfield e1_152 (wd 35 rfl) rfl (j := 1) rfl ?_
                refine go_iload e1_155 rfl ?_
                refine go_iload e1_157 rfl ?_
                refine go_iastore e1_159 rfl (k := 0) (by decide) (Nat.le_of_ble_eq_true rfl) ?_
                simp only [List.replicate_succ, List.replicate_zero, List.set_cons_zero, List.set_cons_succ, List.length_nil, List.length_cons, Nat.zero_add, Nat.reduceAdd, List.nil_append, List.cons_append]
                refine go_aloadN e1_160 rfl rfl ?_
                refine go_getfield e1_161 (wd 38 rfl) rfl (j := 2) rfl ?_
                refine go_iload e1_164 rfl ?_
                refine go_lload e1_166 rfl ?_
                refine go_lastore e1_168 rfl (k := 0) (by decide) (Nat.le_of_ble_eq_true rfl) ?_
                simp only [List.replicate_succ, List.replicate_zero, List.set_cons_zero, List.set_cons_succ, List.length_nil, List.length_cons, Nat.zero_add, Nat.reduceAdd, List.nil_append, List.cons_append]
                refine go_lload e1_169 rfl ?_
                refine go_iload e1_171 rfl ?_
                refine go_i2l e1_173 ?_
                refine go_ladd e1_174 ?_
                refine go_lstore_6 e1_175 (Or.inr ⟨_, rfl⟩) rfl ?_
                refine go_iinc_8 e1_177 (z := 1) rfl ?_
                refine go_goto e1_180 (tg := 105) (by decide) ?_
                refine go_iload e1_105 rfl ?_
                refine go_iloadN e1_107 rfl ?_
                refine go_icgeN e1_108 (tg := 183) (by decide) (by decide) ?_
                refine go_aloadN e1_111 rfl rfl ?_
                refine go_aloadN e1_112 rfl rfl ?_
                refine go_len e1_113 rfl (n := 4) rfl ?_
                refine go_iconst e1_114 (x := 1) rfl ?_
                refine go_isub e1_115 ?_
                refine go_iload e1_116 rfl ?_
                refine go_isub e1_118 ?_
                refine go_iaload e1_119 rfl (k := 2) (by decide) rfl ?_
                refine go_istore_9 e1_120 rfl ?_
                refine go_iload e1_122 rfl ?_
                refine go_ifltN e1_124 (tg := 139) (by decide) (by decide) ?_
                refine go_iload e1_127 rfl ?_
                refine go_aloadN e1_129 rfl rfl ?_
                refine go_getfield e1_130 (wd 33 rfl) rfl (j := 0) rfl ?_
                refine go_iload e1_133 rfl ?_
                refine go_iaload e1_135 rfl (k := 0) (by decide) rfl ?_
                refine go_iceqY e1_136 (tg := 169) (by decide) (Int32.toInt_inj.mp (by omega)) ?_
                refine go_lload e1_169 rfl ?_
                refine go_iload e1_171 rfl ?_
                refine go_i2l e1_173 ?_
                refine go_ladd e1_174 ?_
                refine go_lstore_6 e1_175 (Or.inr ⟨_, rfl⟩) rfl ?_
                refine go_iinc_8 e1_177 (z := 1) rfl ?_
                refine go_goto e1_180 (tg := 105) (by decide) ?_
                refine go_iload e1_105 rfl ?_
                refine go_iloadN e1_107 rfl ?_
                refine go_icgeN e1_108 (tg := 183) (by decide) (by decide) ?_
                refine go_aloadN e1_111 rfl rfl ?_
                refine go_aloadN e1_112 rfl rfl ?_
                refine go_len e1_113 rfl (n := 4) rfl ?_
                refine go_iconst e1_114 (x := 1) rfl ?_
                refine go_isub e1_115 ?_
                refine go_iload e1_116 rfl ?_
                refine go_isub e1_118 ?_
                refine go_iaload e1_119 rfl (k := 1) (by decide) rfl ?_
                refine go_istore_9 e1_120 rfl ?_
                refine go_iload e1_122 rfl ?_
                refine go_ifltN e1_124 (tg := 139) (by decide) (by decide) ?_
                refine go_iload e1_127 rfl ?_
                refine go_aloadN e1_129 rfl rfl ?_
                refine go_getfield e1_130 (wd 33 rfl) rfl (j := 0) rfl ?_
                refine go_iload e1_133 rfl ?_
                refine go_iaload e1_135 rfl (k := 0) (by decide) rfl ?_
                refine go_iceqN e1_136 (tg := 169) (by decide) (fun h => by have := congrArg Int32.toInt h; omega) ?_
                refine go_iinc_5 e1_139 (z := 1) rfl ?_
                refine go_aloadN e1_142 rfl rfl ?_
                refine go_getfield e1_143 (wd 33 rfl) rfl (j := 0) rfl ?_
                refine go_iload e1_146 rfl ?_
                refine go_iload e1_148 rfl ?_
                refine go_iastore e1_150 rfl (k := 1) (by decide) (Nat.le_of_ble_eq_true rfl) ?_
                simp only [List.replicate_succ, List.replicate_zero, List.set_cons_zero, List.set_cons_succ, List.length_nil, List.length_cons, Nat.zero_add, Nat.reduceAdd, List.nil_append, List.cons_append]
                refine go_aloadN e1_151 rfl rfl ?_
                refine go_getfield e1_152 (wd 35 rfl) rfl (j := 1) rfl ?_
                refine go_iload e1_155 rfl ?_
                refine go_iload e1_157 rfl ?_
                refine go_iastore e1_159 rfl (k := 1) (by decide) (Nat.le_of_ble_eq_true rfl) ?_
                simp only [List.replicate_succ, List.replicate_zero, List.set_cons_zero, List.set_cons_succ, List.length_nil, List.length_cons, Nat.zero_add, Nat.reduceAdd, List.nil_append, List.cons_append]
                refine go_aloadN e1_160 rfl rfl ?_
                refine go_getfield e1_161 (wd 38 rfl) rfl (j := 2) rfl ?_
                refine go_iload e1_164 rfl ?_
                refine go_lload e1_166 rfl ?_
                refine go_lastore e1_168 rfl (k := 1) (by decide) (Nat.le_of_ble_eq_true rfl) ?_
                simp only [List.replicate_succ, List.replicate_zero, List.set_cons_zero, List.set_cons_succ, List.length_nil, List.length_cons, Nat.zero_add, Nat.reduceAdd, List.nil_append, List.cons_append]
                refine go_lload e1_169 rfl ?_
                refine go_iload e1_171 rfl ?_
                refine go_i2l e1_173 ?_
                refine go_ladd e1_174 ?_
                refine go_lstore_6 e1_175 (Or.inr ⟨_, rfl⟩) rfl ?_
                refine go_iinc_8 e1_177 (z := 1) rfl ?_
                refine go_goto e1_180 (tg := 105) (by decide) ?_
                refine go_iload e1_105 rfl ?_
                refine go_iloadN e1_107 rfl ?_
                refine go_icgeN e1_108 (tg := 183) (by decide) (by decide) ?_
                refine go_aloadN e1_111 rfl rfl ?_
                refine go_aloadN e1_112 rfl rfl ?_
                refine go_len e1_113 rfl (n := 4) rfl ?_
                refine go_iconst e1_114 (x := 1) rfl ?_
                refine go_isub e1_115 ?_
                refine go_iload e1_116 rfl ?_
                refine go_isub e1_118 ?_
                refine go_iaload e1_119 rfl (k := 0) (by decide) rfl ?_
                refine go_istore_9 e1_120 rfl ?_
                refine go_iload e1_122 rfl ?_
                refine go_ifltN e1_124 (tg := 139) (by decide) (by decide) ?_
                refine go_iload e1_127 rfl ?_
                refine go_aloadN e1_129 rfl rfl ?_
                refine go_getfield e1_130 (wd 33 rfl) rfl (j := 0) rfl ?_
                refine go_iload e1_133 rfl ?_
                refine go_iaload e1_135 rfl (k := 1) (by decide) rfl ?_
                refine go_iceqY e1_136 (tg := 169) (by decide) (Int32.toInt_inj.mp (by omega)) ?_
                refine go_lload e1_169 rfl ?_
                refine go_iload e1_171 rfl ?_
                refine go_i2l e1_173 ?_
                refine go_ladd e1_174 ?_
                refine go_lstore_6 e1_175 (Or.inr ⟨_, rfl⟩) rfl ?_
                refine go_iinc_8 e1_177 (z := 1) rfl ?_
                refine go_goto e1_180 (tg := 105) (by decide) ?_
                refine go_iload e1_105 rfl ?_
                refine go_iloadN e1_107 rfl ?_
                refine go_icgeY e1_108 (tg := 183) (by decide) (by decide) ?_
                refine go_aloadN e1_183 rfl rfl ?_
                refine go_getfield e1_184 (wd 35 rfl) rfl (j := 1) rfl ?_
                refine go_iload e1_187 rfl ?_
                refine go_iloadN e1_189 rfl ?_
                refine go_iastore e1_190 rfl (k := 2) (by decide) (Nat.le_of_ble_eq_true rfl) ?_
                simp only [List.replicate_succ, List.replicate_zero, List.set_cons_zero, List.set_cons_succ, List.length_nil, List.length_cons, Nat.zero_add, Nat.reduceAdd, List.nil_append, List.cons_append]
                refine go_aloadN e1_191 rfl rfl ?_
                refine go_getfield e1_192 (wd 38 rfl) rfl (j := 2) rfl ?_
                refine go_iload e1_195 rfl ?_
                refine go_lload e1_197 rfl ?_
                refine go_lastore e1_199 rfl (k := 2) (by decide) (Nat.le_of_ble_eq_true rfl) ?_
                simp only [List.replicate_succ, List.replicate_zero, List.set_cons_zero, List.set_cons_succ, List.length_nil, List.length_cons, Nat.zero_add, Nat.reduceAdd, List.nil_append, List.cons_append]
                refine go_return e1_200 rfl (by decide) (by decide) ?_
                refine ⟨rfl, [s3, s1], [0, 2, 4], _, _, rfl, ?_, Nat.le_of_ble_eq_true rfl, ?_⟩
                · rw [hpm.1]; unfold own_D; simp only [List.length_cons, List.length_nil]; (repeat' split) <;> omega
                · exact ⟨⟨by omega, by show _ = own_cnt s3 r0 r1 r2 r3; rw [hpm.2 s3, show ((2 : Int32) - 0).toInt = 2 by decide]; unfold own_cnt; (repeat' split) <;> omega, by show 0 < own_cnt s3 r0 r1 r2 r3; rw [hpm.2 s3]; unfold own_cnt; (repeat' split) <;> omega, fun w hw => by cases hw; omega⟩, ⟨⟨by omega, by show _ = own_cnt s1 r0 r1 r2 r3; rw [hpm.2 s1, show ((4 : Int32) - 2).toInt = 2 by decide]; unfold own_cnt; (repeat' split) <;> omega, by show 0 < own_cnt s1 r0 r1 r2 r3; rw [hpm.2 s1]; unfold own_cnt; (repeat' split) <;> omega, fun w hw => by cases hw⟩, trivial⟩⟩
              · intro c56
                have d3 : s0.toInt ≠ s1.toInt := fun z => c56 (Int32.toInt_inj.mp z)
                refine go_iinc_4 e1_59 (z := 1) rfl ?_
                refine go_iinc_3 e1_62 (z := 1) rfl ?_
                refine go_goto e1_65 (tg := 21) (by decide) ?_
                refine go_iloadN e1_21 rfl ?_
                refine go_aloadN e1_22 rfl rfl ?_
                refine go_len e1_23 rfl (n := 4) rfl ?_
                refine go_icgeY e1_24 (tg := 68) (by decide) (by decide) ?_
                refine go_aloadN e1_68 rfl rfl ?_
                refine go_iload e1_69 rfl ?_
                refine go_newarray e1_71 (wd 0 rfl) (k := 3) rfl (vs := [.int 0, .int 0, .int 0]) rfl (cap := 3) (by decide) (by decide) (by decide) (by decide) ?_
                simp only [List.replicate_succ, List.replicate_zero, List.set_cons_zero, List.set_cons_succ, List.length_nil, List.length_cons, Nat.zero_add, Nat.reduceAdd, List.nil_append, List.cons_append]
                refine go_putfield e1_73 (wd 33 rfl) (Or.inr ⟨(wd 34 rfl), rfl, rfl⟩) (wd 2 rfl) pf_8 rfl (j := 0) rfl rfl rfl ?_
                simp only [List.replicate_succ, List.replicate_zero, List.set_cons_zero, List.set_cons_succ, List.length_nil, List.length_cons, Nat.zero_add, Nat.reduceAdd, List.nil_append, List.cons_append]
                refine go_aloadN e1_76 rfl rfl ?_
                refine go_iload e1_77 rfl ?_
                refine go_iconst e1_79 (x := 1) rfl ?_
                refine go_iadd e1_80 ?_
                refine go_newarray e1_81 (wd 0 rfl) (k := 4) rfl (vs := [.int 0, .int 0, .int 0, .int 0]) rfl (cap := 4) (by decide) (by decide) (by decide) (by decide) ?_
                simp only [List.replicate_succ, List.replicate_zero, List.set_cons_zero, List.set_cons_succ, List.length_nil, List.length_cons, Nat.zero_add, Nat.reduceAdd, List.nil_append, List.cons_append]
                refine go_putfield e1_83 (wd 35 rfl) (Or.inr ⟨(wd 36 rfl), rfl, rfl⟩) (wd 2 rfl) pf_8 rfl (j := 1) rfl rfl rfl ?_
                simp only [List.replicate_succ, List.replicate_zero, List.set_cons_zero, List.set_cons_succ, List.length_nil, List.length_cons, Nat.zero_add, Nat.reduceAdd, List.nil_append, List.cons_append]
                refine go_aloadN e1_86 rfl rfl ?_
                refine go_iload e1_87 rfl ?_
                refine go_iconst e1_89 (x := 1) rfl ?_
                refine go_iadd e1_90 ?_
                refine go_newarray e1_91 (wd 37 rfl) (k := 4) rfl (vs := [.long 0, .long 0, .long 0, .long 0]) rfl (cap := 4) (by decide) (by decide) (by decide) (by decide) ?_
                simp only [List.replicate_succ, List.replicate_zero, List.set_cons_zero, List.set_cons_succ, List.length_nil, List.length_cons, Nat.zero_add, Nat.reduceAdd, List.nil_append, List.cons_append]
                refine go_putfield e1_93 (wd 38 rfl) (Or.inr ⟨(wd 39 rfl), rfl, rfl⟩) (wd 2 rfl) pf_9 rfl (j := 2) rfl rfl rfl ?_
                simp only [List.replicate_succ, List.replicate_zero, List.set_cons_zero, List.set_cons_succ, List.length_nil, List.length_cons, Nat.zero_add, Nat.reduceAdd, List.nil_append, List.cons_append]
                refine go_iconst e1_96 (x := (-1)) rfl ?_
                refine go_istore_5 e1_97 rfl ?_
                refine go_lconst e1_99 (x := 0) rfl ?_
                refine go_lstore_6 e1_100 (Or.inl rfl) rfl ?_
                refine go_iconst e1_102 (x := 0) rfl ?_
                refine go_istore_8 e1_103 rfl ?_
                refine go_iload e1_105 rfl ?_
                refine go_iloadN e1_107 rfl ?_
                refine go_icgeN e1_108 (tg := 183) (by decide) (by decide) ?_
                refine go_aloadN e1_111 rfl rfl ?_
                refine go_aloadN e1_112 rfl rfl ?_
                refine go_len e1_113 rfl (n := 4) rfl ?_
                refine go_iconst e1_114 (x := 1) rfl ?_
                refine go_isub e1_115 ?_
                refine go_iload e1_116 rfl ?_
                refine go_isub e1_118 ?_
                refine go_iaload e1_119 rfl (k := 3) (by decide) rfl ?_
                refine go_istore_9 e1_120 rfl ?_
                refine go_iload e1_122 rfl ?_
                refine go_ifltY e1_124 (tg := 139) (by decide) (by decide) ?_
                refine go_iinc_5 e1_139 (z := 1) rfl ?_
                refine go_aloadN e1_142 rfl rfl ?_
                refine go_getfield e1_143 (wd 33 rfl) rfl (j := 0) rfl ?_
                refine go_iload e1_146 rfl ?_
                refine go_iload e1_148 rfl ?_
                refine go_iastore e1_150 rfl (k := 0) (by decide) (Nat.le_of_ble_eq_true rfl) ?_
                simp only [List.replicate_succ, List.replicate_zero, List.set_cons_zero, List.set_cons_succ, List.length_nil, List.length_cons, Nat.zero_add, Nat.reduceAdd, List.nil_append, List.cons_append]
                refine go_aloadN e1_151 rfl rfl ?_
                refine go_getfield e1_152 (wd 35 rfl) rfl (j := 1) rfl ?_
                refine go_iload e1_155 rfl ?_
                refine go_iload e1_157 rfl ?_
                refine go_iastore e1_159 rfl (k := 0) (by decide) (Nat.le_of_ble_eq_true rfl) ?_
                simp only [List.replicate_succ, List.replicate_zero, List.set_cons_zero, List.set_cons_succ, List.length_nil, List.length_cons, Nat.zero_add, Nat.reduceAdd, List.nil_append, List.cons_append]
                refine go_aloadN e1_160 rfl rfl ?_
                refine go_getfield e1_161 (wd 38 rfl) rfl (j := 2) rfl ?_
                refine go_iload e1_164 rfl ?_
                refine go_lload e1_166 rfl ?_
                refine go_lastore e1_168 rfl (k := 0) (by decide) (Nat.le_of_ble_eq_true rfl) ?_
                simp only [List.replicate_succ, List.replicate_zero, List.set_cons_zero, List.set_cons_succ, List.length_nil, List.length_cons, Nat.zero_add, Nat.reduceAdd, List.nil_append, List.cons_append]
                refine go_lload e1_169 rfl ?_
                refine go_iload e1_171 rfl ?_
                refine go_i2l e1_173 ?_
                refine go_ladd e1_174 ?_
                refine go_lstore_6 e1_175 (Or.inr ⟨_, rfl⟩) rfl ?_
                refine go_iinc_8 e1_177 (z := 1) rfl ?_
                refine go_goto e1_180 (tg := 105) (by decide) ?_
                refine go_iload e1_105 rfl ?_
                refine go_iloadN e1_107 rfl ?_
                refine go_icgeN e1_108 (tg := 183) (by decide) (by decide) ?_
                refine go_aloadN e1_111 rfl rfl ?_
                refine go_aloadN e1_112 rfl rfl ?_
                refine go_len e1_113 rfl (n := 4) rfl ?_
                refine go_iconst e1_114 (x := 1) rfl ?_
                refine go_isub e1_115 ?_
                refine go_iload e1_116 rfl ?_
                refine go_isub e1_118 ?_
                refine go_iaload e1_119 rfl (k := 2) (by decide) rfl ?_
                refine go_istore_9 e1_120 rfl ?_
                refine go_iload e1_122 rfl ?_
                refine go_ifltN e1_124 (tg := 139) (by decide) (by decide) ?_
                refine go_iload e1_127 rfl ?_
                refine go_aloadN e1_129 rfl rfl ?_
                refine go_getfield e1_130 (wd 33 rfl) rfl (j := 0) rfl ?_
                refine go_iload e1_133 rfl ?_
                refine go_iaload e1_135 rfl (k := 0) (by decide) rfl ?_
                refine go_iceqY e1_136 (tg := 169) (by decide) (Int32.toInt_inj.mp (by omega)) ?_
                refine go_lload e1_169 rfl ?_
                refine go_iload e1_171 rfl ?_
                refine go_i2l e1_173 ?_
                refine go_ladd e1_174 ?_
                refine go_lstore_6 e1_175 (Or.inr ⟨_, rfl⟩) rfl ?_
                refine go_iinc_8 e1_177 (z := 1) rfl ?_
                refine go_goto e1_180 (tg := 105) (by decide) ?_
                refine go_iload e1_105 rfl ?_
                refine go_iloadN e1_107 rfl ?_
                refine go_icgeN e1_108 (tg := 183) (by decide) (by decide) ?_
                refine go_aloadN e1_111 rfl rfl ?_
                refine go_aloadN e1_112 rfl rfl ?_
                refine go_len e1_113 rfl (n := 4) rfl ?_
                refine go_iconst e1_114 (x := 1) rfl ?_
                refine go_isub e1_115 ?_
                refine go_iload e1_116 rfl ?_
                refine go_isub e1_118 ?_
                refine go_iaload e1_119 rfl (k := 1) (by decide) rfl ?_
                refine go_istore_9 e1_120 rfl ?_
                refine go_iload e1_122 rfl ?_
                refine go_ifltN e1_124 (tg := 139) (by decide) (by decide) ?_
                refine go_iload e1_127 rfl ?_
                refine go_aloadN e1_129 rfl rfl ?_
                refine go_getfield e1_130 (wd 33 rfl) rfl (j := 0) rfl ?_
                refine go_iload e1_133 rfl ?_
                refine go_iaload e1_135 rfl (k := 0) (by decide) rfl ?_
                refine go_iceqN e1_136 (tg := 169) (by decide) (fun h => by have := congrArg Int32.toInt h; omega) ?_
                refine go_iinc_5 e1_139 (z := 1) rfl ?_
                refine go_aloadN e1_142 rfl rfl ?_
                refine go_getfield e1_143 (wd 33 rfl) rfl (j := 0) rfl ?_
                refine go_iload e1_146 rfl ?_
                refine go_iload e1_148 rfl ?_
                refine go_iastore e1_150 rfl (k := 1) (by decide) (Nat.le_of_ble_eq_true rfl) ?_
                simp only [List.replicate_succ, List.replicate_zero, List.set_cons_zero, List.set_cons_succ, List.length_nil, List.length_cons, Nat.zero_add, Nat.reduceAdd, List.nil_append, List.cons_append]
                refine go_aloadN e1_151 rfl rfl ?_
                refine go_getfield e1_152 (wd 35 rfl) rfl (j := 1) rfl ?_
                refine go_iload e1_155 rfl ?_
                refine go_iload e1_157 rfl ?_
                refine go_iastore e1_159 rfl (k := 1) (by decide) (Nat.le_of_ble_eq_true rfl) ?_
                simp only [List.replicate_succ, List.replicate_zero, List.set_cons_zero, List.set_cons_succ, List.length_nil, List.length_cons, Nat.zero_add, Nat.reduceAdd, List.nil_append, List.cons_append]
                refine go_aloadN e1_160 rfl rfl ?_
                refine go_getfield e1_161 (wd 38 rfl) rfl (j := 2) rfl ?_
                refine go_iload e1_164 rfl ?_
                refine go_lload e1_166 rfl ?_
                refine go_lastore e1_168 rfl (k := 1) (by decide) (Nat.le_of_ble_eq_true rfl) ?_
                simp only [List.replicate_succ, List.replicate_zero, List.set_cons_zero, List.set_cons_succ, List.length_nil, List.length_cons, Nat.zero_add, Nat.reduceAdd, List.nil_append, List.cons_append]
                refine go_lload e1_169 rfl ?_
                refine go_iload e1_171 rfl ?_
                refine go_i2l e1_173 ?_
                refine go_ladd e1_174 ?_
                refine go_lstore_6 e1_175 (Or.inr ⟨_, rfl⟩) rfl ?_
                refine go_iinc_8 e1_177 (z := 1) rfl ?_
                refine go_goto e1_180 (tg := 105) (by decide) ?_
                refine go_iload e1_105 rfl ?_
                refine go_iloadN e1_107 rfl ?_
                refine go_icgeN e1_108 (tg := 183) (by decide) (by decide) ?_
                refine go_aloadN e1_111 rfl rfl ?_
                refine go_aloadN e1_112 rfl rfl ?_
                refine go_len e1_113 rfl (n := 4) rfl ?_
                refine go_iconst e1_114 (x := 1) rfl ?_
                refine go_isub e1_115 ?_
                refine go_iload e1_116 rfl ?_
                refine go_isub e1_118 ?_
                refine go_iaload e1_119 rfl (k := 0) (by decide) rfl ?_
                refine go_istore_9 e1_120 rfl ?_
                refine go_iload e1_122 rfl ?_
                refine go_ifltN e1_124 (tg := 139) (by decide) (by decide) ?_
                refine go_iload e1_127 rfl ?_
                refine go_aloadN e1_129 rfl rfl ?_
                refine go_getfield e1_130 (wd 33 rfl) rfl (j := 0) rfl ?_
                refine go_iload e1_133 rfl ?_
                refine go_iaload e1_135 rfl (k := 1) (by decide) rfl ?_
                refine go_iceqN e1_136 (tg := 169) (by decide) (fun h => by have := congrArg Int32.toInt h; omega) ?_
                refine go_iinc_5 e1_139 (z := 1) rfl ?_
                refine go_aloadN e1_142 rfl rfl ?_
                refine go_getfield e1_143 (wd 33 rfl) rfl (j := 0) rfl ?_
                refine go_iload e1_146 rfl ?_
                refine go_iload e1_148 rfl ?_
                refine go_iastore e1_150 rfl (k := 2) (by decide) (Nat.le_of_ble_eq_true rfl) ?_
                simp only [List.replicate_succ, List.replicate_zero, List.set_cons_zero, List.set_cons_succ, List.length_nil, List.length_cons, Nat.zero_add, Nat.reduceAdd, List.nil_append, List.cons_append]
                refine go_aloadN e1_151 rfl rfl ?_
                refine go_getfield e1_152 (wd 35 rfl) rfl (j := 1) rfl ?_
                refine go_iload e1_155 rfl ?_
                refine go_iload e1_157 rfl ?_
                refine go_iastore e1_159 rfl (k := 2) (by decide) (Nat.le_of_ble_eq_true rfl) ?_
                simp only [List.replicate_succ, List.replicate_zero, List.set_cons_zero, List.set_cons_succ, List.length_nil, List.length_cons, Nat.zero_add, Nat.reduceAdd, List.nil_append, List.cons_append]
                refine go_aloadN e1_160 rfl rfl ?_
                refine go_getfield e1_161 (wd 38 rfl) rfl (j := 2) rfl ?_
                refine go_iload e1_164 rfl ?_
                refine go_lload e1_166 rfl ?_
                refine go_lastore e1_168 rfl (k := 2) (by decide) (Nat.le_of_ble_eq_true rfl) ?_
                simp only [List.replicate_succ, List.replicate_zero, List.set_cons_zero, List.set_cons_succ, List.length_nil, List.length_cons, Nat.zero_add, Nat.reduceAdd, List.nil_append, List.cons_append]
                refine go_lload e1_169 rfl ?_
                refine go_iload e1_171 rfl ?_
                refine go_i2l e1_173 ?_
                refine go_ladd e1_174 ?_
                refine go_lstore_6 e1_175 (Or.inr ⟨_, rfl⟩) rfl ?_
                refine go_iinc_8 e1_177 (z := 1) rfl ?_
                refine go_goto e1_180 (tg := 105) (by decide) ?_
                refine go_iload e1_105 rfl ?_
                refine go_iloadN e1_107 rfl ?_
                refine go_icgeY e1_108 (tg := 183) (by decide) (by decide) ?_
                refine go_aloadN e1_183 rfl rfl ?_
                refine go_getfield e1_184 (wd 35 rfl) rfl (j := 1) rfl ?_
                refine go_iload e1_187 rfl ?_
                refine go_iloadN e1_189 rfl ?_
                refine go_iastore e1_190 rfl (k := 3) (by decide) (Nat.le_of_ble_eq_true rfl) ?_
                simp only [List.replicate_succ, List.replicate_zero, List.set_cons_zero, List.set_cons_succ, List.length_nil, List.length_cons, Nat.zero_add, Nat.reduceAdd, List.nil_append, List.cons_append]
                refine go_aloadN e1_191 rfl rfl ?_
                refine go_getfield e1_192 (wd 38 rfl) rfl (j := 2) rfl ?_
                refine go_iload e1_195 rfl ?_
                refine go_lload e1_197 rfl ?_
                refine go_lastore e1_199 rfl (k := 3) (by decide) (Nat.le_of_ble_eq_true rfl) ?_
                simp only [List.replicate_succ, List.replicate_zero, List.set_cons_zero, List.set_cons_succ, List.length_nil, List.length_cons, Nat.zero_add, Nat.reduceAdd, List.nil_append, List.cons_append]
                refine go_return e1_200 rfl (by decide) (by decide) ?_
                refine ⟨rfl, [s3, s1, s0], [0, 2, 3, 4], _, _, rfl, ?_, Nat.le_of_ble_eq_true rfl, ?_⟩
                · rw [hpm.1]; unfold own_D; simp only [List.length_cons, List.length_nil]; (repeat' split) <;> omega
                · exact ⟨⟨by omega, by show _ = own_cnt s3 r0 r1 r2 r3; rw [hpm.2 s3, show ((2 : Int32) - 0).toInt = 2 by decide]; unfold own_cnt; (repeat' split) <;> omega, by show 0 < own_cnt s3 r0 r1 r2 r3; rw [hpm.2 s3]; unfold own_cnt; (repeat' split) <;> omega, fun w hw => by cases hw; omega⟩, ⟨⟨by omega, by show _ = own_cnt s1 r0 r1 r2 r3; rw [hpm.2 s1, show ((3 : Int32) - 2).toInt = 1 by decide]; unfold own_cnt; (repeat' split) <;> omega, by show 0 < own_cnt s1 r0 r1 r2 r3; rw [hpm.2 s1]; unfold own_cnt; (repeat' split) <;> omega, fun w hw => by cases hw; omega⟩, ⟨⟨by omega, by show _ = own_cnt s0 r0 r1 r2 r3; rw [hpm.2 s0, show ((4 : Int32) - 3).toInt = 1 by decide]; unfold own_cnt; (repeat' split) <;> omega, by show 0 < own_cnt s0 r0 r1 r2 r3; rw [hpm.2 s0]; unfold own_cnt; (repeat' split) <;> omega, fun w hw => by cases hw⟩, trivial⟩⟩⟩
      · intro c56
        have d1 : s2.toInt ≠ s3.toInt := fun z => c56 (Int32.toInt_inj.mp z)
        refine go_iinc_4 e1_59 (z := 1) rfl ?_
        refine go_iinc_3 e1_62 (z := 1) rfl ?_
        refine go_goto e1_65 (tg := 21) (by decide) ?_
        refine go_iloadN e1_21 rfl ?_
        refine go_aloadN e1_22 rfl rfl ?_
        refine go_len e1_23 rfl (n := 4) rfl ?_
        refine go_icgeN e1_24 (tg := 68) (by decide) (by decide) ?_
        refine go_aloadN e1_27 rfl rfl ?_
        refine go_aloadN e1_28 rfl rfl ?_
        refine go_len e1_29 rfl (n := 4) rfl ?_
        refine go_iconst e1_30 (x := 1) rfl ?_
        refine go_isub e1_31 ?_
        refine go_iloadN e1_32 rfl ?_
        refine go_isub e1_33 ?_
        refine go_iaload e1_34 rfl (k := 1) (by decide) rfl ?_
        refine go_ifle e1_35 (tg := 68) (by decide) ?_ ?_
        · intro z2
          refine go_aloadN e1_68 rfl rfl ?_
          refine go_iload e1_69 rfl ?_
          refine go_newarray e1_71 (wd 0 rfl) (k := 2) rfl (vs := [.int 0, .int 0]) rfl (cap := 2) (by decide) (by decide) (by decide) (by decide) ?_
          simp only [List.replicate_succ, List.replicate_zero, List.set_cons_zero, List.set_cons_succ, List.length_nil, List.length_cons, Nat.zero_add, Nat.reduceAdd, List.nil_append, List.cons_append]
          refine go_putfield e1_73 (wd 33 rfl) (Or.inr ⟨(wd 34 rfl), rfl, rfl⟩) (wd 2 rfl) pf_8 rfl (j := 0) rfl rfl rfl ?_
          simp only [List.replicate_succ, List.replicate_zero, List.set_cons_zero, List.set_cons_succ, List.length_nil, List.length_cons, Nat.zero_add, Nat.reduceAdd, List.nil_append, List.cons_append]
          refine go_aloadN e1_76 rfl rfl ?_
          refine go_iload e1_77 rfl ?_
          refine go_iconst e1_79 (x := 1) rfl ?_
          refine go_iadd e1_80 ?_
          refine go_newarray e1_81 (wd 0 rfl) (k := 3) rfl (vs := [.int 0, .int 0, .int 0]) rfl (cap := 3) (by decide) (by decide) (by decide) (by decide) ?_
          simp only [List.replicate_succ, List.replicate_zero, List.set_cons_zero, List.set_cons_succ, List.length_nil, List.length_cons, Nat.zero_add, Nat.reduceAdd, List.nil_append, List.cons_append]
          refine go_putfield e1_83 (wd 35 rfl) (Or.inr ⟨(wd 36 rfl), rfl, rfl⟩) (wd 2 rfl) pf_8 rfl (j := 1) rfl rfl rfl ?_
          simp only [List.replicate_succ, List.replicate_zero, List.set_cons_zero, List.set_cons_succ, List.length_nil, List.length_cons, Nat.zero_add, Nat.reduceAdd, List.nil_append, List.cons_append]
          refine go_aloadN e1_86 rfl rfl ?_
          refine go_iload e1_87 rfl ?_
          refine go_iconst e1_89 (x := 1) rfl ?_
          refine go_iadd e1_90 ?_
          refine go_newarray e1_91 (wd 37 rfl) (k := 3) rfl (vs := [.long 0, .long 0, .long 0]) rfl (cap := 3) (by decide) (by decide) (by decide) (by decide) ?_
          simp only [List.replicate_succ, List.replicate_zero, List.set_cons_zero, List.set_cons_succ, List.length_nil, List.length_cons, Nat.zero_add, Nat.reduceAdd, List.nil_append, List.cons_append]
          refine go_putfield e1_93 (wd 38 rfl) (Or.inr ⟨(wd 39 rfl), rfl, rfl⟩) (wd 2 rfl) pf_9 rfl (j := 2) rfl rfl rfl ?_
          simp only [List.replicate_succ, List.replicate_zero, List.set_cons_zero, List.set_cons_succ, List.length_nil, List.length_cons, Nat.zero_add, Nat.reduceAdd, List.nil_append, List.cons_append]
          refine go_iconst e1_96 (x := (-1)) rfl ?_
          refine go_istore_5 e1_97 rfl ?_
          refine go_lconst e1_99 (x := 0) rfl ?_
          refine go_lstore_6 e1_100 (Or.inl rfl) rfl ?_
          refine go_iconst e1_102 (x := 0) rfl ?_
          refine go_istore_8 e1_103 rfl ?_
          refine go_iload e1_105 rfl ?_
          refine go_iloadN e1_107 rfl ?_
          refine go_icgeN e1_108 (tg := 183) (by decide) (by decide) ?_
          refine go_aloadN e1_111 rfl rfl ?_
          refine go_aloadN e1_112 rfl rfl ?_
          refine go_len e1_113 rfl (n := 4) rfl ?_
          refine go_iconst e1_114 (x := 1) rfl ?_
          refine go_isub e1_115 ?_
          refine go_iload e1_116 rfl ?_
          refine go_isub e1_118 ?_
          refine go_iaload e1_119 rfl (k := 3) (by decide) rfl ?_
          refine go_istore_9 e1_120 rfl ?_
          refine go_iload e1_122 rfl ?_
          refine go_ifltY e1_124 (tg := 139) (by decide) (by decide) ?_
          refine go_iinc_5 e1_139 (z := 1) rfl ?_
          refine go_aloadN e1_142 rfl rfl ?_
          refine go_getfield e1_143 (wd 33 rfl) rfl (j := 0) rfl ?_
          refine go_iload e1_146 rfl ?_
          refine go_iload e1_148 rfl ?_
          refine go_iastore e1_150 rfl (k := 0) (by decide) (Nat.le_of_ble_eq_true rfl) ?_
          simp only [List.replicate_succ, List.replicate_zero, List.set_cons_zero, List.set_cons_succ, List.length_nil, List.length_cons, Nat.zero_add, Nat.reduceAdd, List.nil_append, List.cons_append]
          refine go_aloadN e1_151 rfl rfl ?_
          refine go_getfield e1_152 (wd 35 rfl) rfl (j := 1) rfl ?_
          refine go_iload e1_155 rfl ?_
          refine go_iload e1_157 rfl ?_
          refine go_iastore e1_159 rfl (k := 0) (by decide) (Nat.le_of_ble_eq_true rfl) ?_
          simp only [List.replicate_succ, List.replicate_zero, List.set_cons_zero, List.set_cons_succ, List.length_nil, List.length_cons, Nat.zero_add, Nat.reduceAdd, List.nil_append, List.cons_append]
          refine go_aloadN e1_160 rfl rfl ?_
          refine go_getfield e1_161 (wd 38 rfl) rfl (j := 2) rfl ?_
          refine go_iload e1_164 rfl ?_
          refine go_lload e1_166 rfl ?_
          refine go_lastore e1_168 rfl (k := 0) (by decide) (Nat.le_of_ble_eq_true rfl) ?_
          simp only [List.replicate_succ, List.replicate_zero, List.set_cons_zero, List.set_cons_succ, List.length_nil, List.length_cons, Nat.zero_add, Nat.reduceAdd, List.nil_append, List.cons_append]
          refine go_lload e1_169 rfl ?_
          refine go_iload e1_171 rfl ?_
          refine go_i2l e1_173 ?_
          refine go_ladd e1_174 ?_
          refine go_lstore_6 e1_175 (Or.inr ⟨_, rfl⟩) rfl ?_
          refine go_iinc_8 e1_177 (z := 1) rfl ?_
          refine go_goto e1_180 (tg := 105) (by decide) ?_
          refine go_iload e1_105 rfl ?_
          refine go_iloadN e1_107 rfl ?_
          refine go_icgeN e1_108 (tg := 183) (by decide) (by decide) ?_
          refine go_aloadN e1_111 rfl rfl ?_
          refine go_aloadN e1_112 rfl rfl ?_
          refine go_len e1_113 rfl (n := 4) rfl ?_
          refine go_iconst e1_114 (x := 1) rfl ?_
          refine go_isub e1_115 ?_
          refine go_iload e1_116 rfl ?_
          refine go_isub e1_118 ?_
          refine go_iaload e1_119 rfl (k := 2) (by decide) rfl ?_
          refine go_istore_9 e1_120 rfl ?_
          refine go_iload e1_122 rfl ?_
          refine go_ifltN e1_124 (tg := 139) (by decide) (by decide) ?_
          refine go_iload e1_127 rfl ?_
          refine go_aloadN e1_129 rfl rfl ?_
          refine go_getfield e1_130 (wd 33 rfl) rfl (j := 0) rfl ?_
          refine go_iload e1_133 rfl ?_
          refine go_iaload e1_135 rfl (k := 0) (by decide) rfl ?_
          refine go_iceqN e1_136 (tg := 169) (by decide) (fun h => by have := congrArg Int32.toInt h; omega) ?_
          refine go_iinc_5 e1_139 (z := 1) rfl ?_
          refine go_aloadN e1_142 rfl rfl ?_
          refine go_getfield e1_143 (wd 33 rfl) rfl (j := 0) rfl ?_
          refine go_iload e1_146 rfl ?_
          refine go_iload e1_148 rfl ?_
          refine go_iastore e1_150 rfl (k := 1) (by decide) (Nat.le_of_ble_eq_true rfl) ?_
          simp only [List.replicate_succ, List.replicate_zero, List.set_cons_zero, List.set_cons_succ, List.length_nil, List.length_cons, Nat.zero_add, Nat.reduceAdd, List.nil_append, List.cons_append]
          refine go_aloadN e1_151 rfl rfl ?_
          refine go_getfield e1_152 (wd 35 rfl) rfl (j := 1) rfl ?_
          refine go_iload e1_155 rfl ?_
          refine go_iload e1_157 rfl ?_
          refine go_iastore e1_159 rfl (k := 1) (by decide) (Nat.le_of_ble_eq_true rfl) ?_
          simp only [List.replicate_succ, List.replicate_zero, List.set_cons_zero, List.set_cons_succ, List.length_nil, List.length_cons, Nat.zero_add, Nat.reduceAdd, List.nil_append, List.cons_append]
          refine go_aloadN e1_160 rfl rfl ?_
          refine go_getfield e1_161 (wd 38 rfl) rfl (j := 2) rfl ?_
          refine go_iload e1_164 rfl ?_
          refine go_lload e1_166 rfl ?_
          refine go_lastore e1_168 rfl (k := 1) (by decide) (Nat.le_of_ble_eq_true rfl) ?_
          simp only [List.replicate_succ, List.replicate_zero, List.set_cons_zero, List.set_cons_succ, List.length_nil, List.length_cons, Nat.zero_add, Nat.reduceAdd, List.nil_append, List.cons_append]
          refine go_lload e1_169 rfl ?_
          refine go_iload e1_171 rfl ?_
          refine go_i2l e1_173 ?_
          refine go_ladd e1_174 ?_
          refine go_lstore_6 e1_175 (Or.inr ⟨_, rfl⟩) rfl ?_
          refine go_iinc_8 e1_177 (z := 1) rfl ?_
          refine go_goto e1_180 (tg := 105) (by decide) ?_
          refine go_iload e1_105 rfl ?_
          refine go_iloadN e1_107 rfl ?_
          refine go_icgeY e1_108 (tg := 183) (by decide) (by decide) ?_
          refine go_aloadN e1_183 rfl rfl ?_
          refine go_getfield e1_184 (wd 35 rfl) rfl (j := 1) rfl ?_
          refine go_iload e1_187 rfl ?_
          refine go_iloadN e1_189 rfl ?_
          refine go_iastore e1_190 rfl (k := 2) (by decide) (Nat.le_of_ble_eq_true rfl) ?_
          simp only [List.replicate_succ, List.replicate_zero, List.set_cons_zero, List.set_cons_succ, List.length_nil, List.length_cons, Nat.zero_add, Nat.reduceAdd, List.nil_append, List.cons_append]
          refine go_aloadN e1_191 rfl rfl ?_
          refine go_getfield e1_192 (wd 38 rfl) rfl (j := 2) rfl ?_
          refine go_iload e1_195 rfl ?_
          refine go_lload e1_197 rfl ?_
          refine go_lastore e1_199 rfl (k := 2) (by decide) (Nat.le_of_ble_eq_true rfl) ?_
          simp only [List.replicate_succ, List.replicate_zero, List.set_cons_zero, List.set_cons_succ, List.length_nil, List.length_cons, Nat.zero_add, Nat.reduceAdd, List.nil_append, List.cons_append]
          refine go_return e1_200 rfl (by decide) (by decide) ?_
          refine ⟨rfl, [s3, s2], [0, 1, 2], _, _, rfl, ?_, Nat.le_of_ble_eq_true rfl, ?_⟩
          · rw [hpm.1]; unfold own_D; simp only [List.length_cons, List.length_nil]; (repeat' split) <;> omega
          · exact ⟨⟨by omega, by show _ = own_cnt s3 r0 r1 r2 r3; rw [hpm.2 s3, show ((1 : Int32) - 0).toInt = 1 by decide]; unfold own_cnt; (repeat' split) <;> omega, by show 0 < own_cnt s3 r0 r1 r2 r3; rw [hpm.2 s3]; unfold own_cnt; (repeat' split) <;> omega, fun w hw => by cases hw; omega⟩, ⟨⟨by omega, by show _ = own_cnt s2 r0 r1 r2 r3; rw [hpm.2 s2, show ((2 : Int32) - 1).toInt = 1 by decide]; unfold own_cnt; (repeat' split) <;> omega, by show 0 < own_cnt s2 r0 r1 r2 r3; rw [hpm.2 s2]; unfold own_cnt; (repeat' split) <;> omega, fun w hw => by cases hw⟩, trivial⟩⟩
        · intro z2
          refine go_iloadN e1_38 rfl ?_
          refine go_ifeqN e1_39 (tg := 59) (by decide) (by decide) ?_
          refine go_aloadN e1_42 rfl rfl ?_
          refine go_aloadN e1_43 rfl rfl ?_
          refine go_len e1_44 rfl (n := 4) rfl ?_
          refine go_iconst e1_45 (x := 1) rfl ?_
          refine go_isub e1_46 ?_
          refine go_iloadN e1_47 rfl ?_
          refine go_isub e1_48 ?_
          refine go_iaload e1_49 rfl (k := 1) (by decide) rfl ?_
          refine go_aloadN e1_50 rfl rfl ?_
          refine go_aloadN e1_51 rfl rfl ?_
          refine go_len e1_52 rfl (n := 4) rfl ?_
          refine go_iloadN e1_53 rfl ?_
          refine go_isub e1_54 ?_
          refine go_iaload e1_55 rfl (k := 2) (by decide) rfl ?_
          refine go_iceq e1_56 (tg := 62) (by decide) ?_ ?_
          · intro c56
            have d2 := congrArg Int32.toInt c56
            refine go_iinc_3 e1_62 (z := 1) rfl ?_
            refine go_goto e1_65 (tg := 21) (by decide) ?_
            refine go_iloadN e1_21 rfl ?_
            refine go_aloadN e1_22 rfl rfl ?_
            refine go_len e1_23 rfl (n := 4) rfl ?_
            refine go_icgeN e1_24 (tg := 68) (by decide) (by decide) ?_
            refine go_aloadN e1_27 rfl rfl ?_
            refine go_aloadN e1_28 rfl rfl ?_
            refine go_len e1_29 rfl (n := 4) rfl ?_
            refine go_iconst e1_30 (x := 1) rfl ?_
            refine go_isub e1_31 ?_
            refine go_iloadN e1_32 rfl ?_
            refine go_isub e1_33 ?_
            refine go_iaload e1_34 rfl (k := 0) (by decide) rfl ?_
            refine go_ifle e1_35 (tg := 68) (by decide) ?_ ?_
            · intro z3
              refine go_aloadN e1_68 rfl rfl ?_
              refine go_iload e1_69 rfl ?_
              refine go_newarray e1_71 (wd 0 rfl) (k := 2) rfl (vs := [.int 0, .int 0]) rfl (cap := 2) (by decide) (by decide) (by decide) (by decide) ?_
              simp only [List.replicate_succ, List.replicate_zero, List.set_cons_zero, List.set_cons_succ, List.length_nil, List.length_cons, Nat.zero_add, Nat.reduceAdd, List.nil_append, List.cons_append]
              refine go_putfield e1_73 (wd 33 rfl) (Or.inr ⟨(wd 34 rfl), rfl, rfl⟩) (wd 2 rfl) pf_8 rfl (j := 0) rfl rfl rfl ?_
              simp only [List.replicate_succ, List.replicate_zero, List.set_cons_zero, List.set_cons_succ, List.length_nil, List.length_cons, Nat.zero_add, Nat.reduceAdd, List.nil_append, List.cons_append]
              refine go_aloadN e1_76 rfl rfl ?_
              refine go_iload e1_77 rfl ?_
              refine go_iconst e1_79 (x := 1) rfl ?_
              refine go_iadd e1_80 ?_
              refine go_newarray e1_81 (wd 0 rfl) (k := 3) rfl (vs := [.int 0, .int 0, .int 0]) rfl (cap := 3) (by decide) (by decide) (by decide) (by decide) ?_
              simp only [List.replicate_succ, List.replicate_zero, List.set_cons_zero, List.set_cons_succ, List.length_nil, List.length_cons, Nat.zero_add, Nat.reduceAdd, List.nil_append, List.cons_append]
              refine go_putfield e1_83 (wd 35 rfl) (Or.inr ⟨(wd 36 rfl), rfl, rfl⟩) (wd 2 rfl) pf_8 rfl (j := 1) rfl rfl rfl ?_
              simp only [List.replicate_succ, List.replicate_zero, List.set_cons_zero, List.set_cons_succ, List.length_nil, List.length_cons, Nat.zero_add, Nat.reduceAdd, List.nil_append, List.cons_append]
              refine go_aloadN e1_86 rfl rfl ?_
              refine go_iload e1_87 rfl ?_
              refine go_iconst e1_89 (x := 1) rfl ?_
              refine go_iadd e1_90 ?_
              refine go_newarray e1_91 (wd 37 rfl) (k := 3) rfl (vs := [.long 0, .long 0, .long 0]) rfl (cap := 3) (by decide) (by decide) (by decide) (by decide) ?_
              simp only [List.replicate_succ, List.replicate_zero, List.set_cons_zero, List.set_cons_succ, List.length_nil, List.length_cons, Nat.zero_add, Nat.reduceAdd, List.nil_append, List.cons_append]
              refine go_putfield e1_93 (wd 38 rfl) (Or.inr ⟨(wd 39 rfl), rfl, rfl⟩) (wd 2 rfl) pf_9 rfl (j := 2) rfl rfl rfl ?_
              simp only [List.replicate_succ, List.replicate_zero, List.set_cons_zero, List.set_cons_succ, List.length_nil, List.length_cons, Nat.zero_add, Nat.reduceAdd, List.nil_append, List.cons_append]
              refine go_iconst e1_96 (x := (-1)) rfl ?_
              refine go_istore_5 e1_97 rfl ?_
              refine go_lconst e1_99 (x := 0) rfl ?_
              refine go_lstore_6 e1_100 (Or.inl rfl) rfl ?_
              refine go_iconst e1_102 (x := 0) rfl ?_
              refine go_istore_8 e1_103 rfl ?_
              refine go_iload e1_105 rfl ?_
              refine go_iloadN e1_107 rfl ?_
              refine go_icgeN e1_108 (tg := 183) (by decide) (by decide) ?_
              refine go_aloadN e1_111 rfl rfl ?_
              refine go_aloadN e1_112 rfl rfl ?_
              refine go_len e1_113 rfl (n := 4) rfl ?_
              refine go_iconst e1_114 (x := 1) rfl ?_
              refine go_isub e1_115 ?_
              refine go_iload e1_116 rfl ?_
              refine go_isub e1_118 ?_
              refine go_iaload e1_119 rfl (k := 3) (by decide) rfl ?_
              refine go_istore_9 e1_120 rfl ?_
              refine go_iload e1_122 rfl ?_
              refine go_ifltY e1_124 (tg := 139) (by decide) (by decide) ?_
              refine go_iinc_5 e1_139 (z := 1) rfl ?_
              refine go_aloadN e1_142 rfl rfl ?_
              refine go_getfield e1_143 (wd 33 rfl) rfl (j := 0) rfl ?_
              refine go_iload e1_146 rfl ?_
              refine go_iload e1_148 rfl ?_
              refine go_iastore e1_150 rfl (k := 0) (by decide) (Nat.le_of_ble_eq_true rfl) ?_
              simp only [List.replicate_succ, List.replicate_zero, List.set_cons_zero, List.set_cons_succ, List.length_nil, List.length_cons, Nat.zero_add, Nat.reduceAdd, List.nil_append, List.cons_append]
              refine go_aloadN e1_151 rfl rfl ?_
              refine go_getfield e1_152 (wd 35 rfl) rfl (j := 1) rfl ?_
              refine go_iload e1_155 rfl ?_
              refine go_iload e1_157 rfl ?_
              refine go_iastore e1_159 rfl (k := 0) (by decide) (Nat.le_of_ble_eq_true rfl) ?_
              simp only [List.replicate_succ, List.replicate_zero, List.set_cons_zero, List.set_cons_succ, List.length_nil, List.length_cons, Nat.zero_add, Nat.reduceAdd, List.nil_append, List.cons_append]
              refine go_aloadN e1_160 rfl rfl ?_
              refine go_getfield e1_161 (wd 38 rfl) rfl (j := 2) rfl ?_
              refine go_iload e1_164 rfl ?_
              refine go_lload e1_166 rfl ?_
              refine go_lastore e1_168 rfl (k := 0) (by decide) (Nat.le_of_ble_eq_true rfl) ?_
              simp only [List.replicate_succ, List.replicate_zero, List.set_cons_zero, List.set_cons_succ, List.length_nil, List.length_cons, Nat.zero_add, Nat.reduceAdd, List.nil_append, List.cons_append]
              refine go_lload e1_169 rfl ?_
              refine go_iload e1_171 rfl ?_
              refine go_i2l e1_173 ?_
              refine go_ladd e1_174 ?_
              refine go_lstore_6 e1_175 (Or.inr ⟨_, rfl⟩) rfl ?_
              refine go_iinc_8 e1_177 (z := 1) rfl ?_
              refine go_goto e1_180 (tg := 105) (by decide) ?_
              refine go_iload e1_105 rfl ?_
              refine go_iloadN e1_107 rfl ?_
              refine go_icgeN e1_108 (tg := 183) (by decide) (by decide) ?_
              refine go_aloadN e1_111 rfl rfl ?_
              refine go_aloadN e1_112 rfl rfl ?_
              refine go_len e1_113 rfl (n := 4) rfl ?_
              refine go_iconst e1_114 (x := 1) rfl ?_
              refine go_isub e1_115 ?_
              refine go_iload e1_116 rfl ?_
              refine go_isub e1_118 ?_
              refine go_iaload e1_119 rfl (k := 2) (by decide) rfl ?_
              refine go_istore_9 e1_120 rfl ?_
              refine go_iload e1_122 rfl ?_
              refine go_ifltN e1_124 (tg := 139) (by decide) (by decide) ?_
              refine go_iload e1_127 rfl ?_
              refine go_aloadN e1_129 rfl rfl ?_
              refine go_getfield e1_130 (wd 33 rfl) rfl (j := 0) rfl ?_
              refine go_iload e1_133 rfl ?_
              refine go_iaload e1_135 rfl (k := 0) (by decide) rfl ?_
              refine go_iceqN e1_136 (tg := 169) (by decide) (fun h => by have := congrArg Int32.toInt h; omega) ?_
              refine go_iinc_5 e1_139 (z := 1) rfl ?_
              refine go_aloadN e1_142 rfl rfl ?_
              refine go_getfield e1_143 (wd 33 rfl) rfl (j := 0) rfl ?_
              refine go_iload e1_146 rfl ?_
              refine go_iload e1_148 rfl ?_
              refine go_iastore e1_150 rfl (k := 1) (by decide) (Nat.le_of_ble_eq_true rfl) ?_
              simp only [List.replicate_succ, List.replicate_zero, List.set_cons_zero, List.set_cons_succ, List.length_nil, List.length_cons, Nat.zero_add, Nat.reduceAdd, List.nil_append, List.cons_append]
              refine go_aloadN e1_151 rfl rfl ?_
              refine go_getfield e1_152 (wd 35 rfl) rfl (j := 1) rfl ?_
              refine go_iload e1_155 rfl ?_
              refine go_iload e1_157 rfl ?_
              refine go_iastore e1_159 rfl (k := 1) (by decide) (Nat.le_of_ble_eq_true rfl) ?_
              simp only [List.replicate_succ, List.replicate_zero, List.set_cons_zero, List.set_cons_succ, List.length_nil, List.length_cons, Nat.zero_add, Nat.reduceAdd, List.nil_append, List.cons_append]
              refine go_aloadN e1_160 rfl rfl ?_
              refine go_getfield e1_161 (wd 38 rfl) rfl (j := 2) rfl ?_
              refine go_iload e1_164 rfl ?_
              refine go_lload e1_166 rfl ?_
              refine go_lastore e1_168 rfl (k := 1) (by decide) (Nat.le_of_ble_eq_true rfl) ?_
              simp only [List.replicate_succ, List.replicate_zero, List.set_cons_zero, List.set_cons_succ, List.length_nil, List.length_cons, Nat.zero_add, Nat.reduceAdd, List.nil_append, List.cons_append]
              refine go_lload e1_169 rfl ?_
              refine go_iload e1_171 rfl ?_
              refine go_i2l e1_173 ?_
              refine go_ladd e1_174 ?_
              refine go_lstore_6 e1_175 (Or.inr ⟨_, rfl⟩) rfl ?_
              refine go_iinc_8 e1_177 (z := 1) rfl ?_
              refine go_goto e1_180 (tg := 105) (by decide) ?_
              refine go_iload e1_105 rfl ?_
              refine go_iloadN e1_107 rfl ?_
              refine go_icgeN e1_108 (tg := 183) (by decide) (by decide) ?_
              refine go_aloadN e1_111 rfl rfl ?_
              refine go_aloadN e1_112 rfl rfl ?_
              refine go_len e1_113 rfl (n := 4) rfl ?_
              refine go_iconst e1_114 (x := 1) rfl ?_
              refine go_isub e1_115 ?_
              refine go_iload e1_116 rfl ?_
              refine go_isub e1_118 ?_
              refine go_iaload e1_119 rfl (k := 1) (by decide) rfl ?_
              refine go_istore_9 e1_120 rfl ?_
              refine go_iload e1_122 rfl ?_
              refine go_ifltN e1_124 (tg := 139) (by decide) (by decide) ?_
              refine go_iload e1_127 rfl ?_
              refine go_aloadN e1_129 rfl rfl ?_
              refine go_getfield e1_130 (wd 33 rfl) rfl (j := 0) rfl ?_
              refine go_iload e1_133 rfl ?_
              refine go_iaload e1_135 rfl (k := 1) (by decide) rfl ?_
              refine go_iceqY e1_136 (tg := 169) (by decide) (Int32.toInt_inj.mp (by omega)) ?_
              refine go_lload e1_169 rfl ?_
              refine go_iload e1_171 rfl ?_
              refine go_i2l e1_173 ?_
              refine go_ladd e1_174 ?_
              refine go_lstore_6 e1_175 (Or.inr ⟨_, rfl⟩) rfl ?_
              refine go_iinc_8 e1_177 (z := 1) rfl ?_
              refine go_goto e1_180 (tg := 105) (by decide) ?_
              refine go_iload e1_105 rfl ?_
              refine go_iloadN e1_107 rfl ?_
              refine go_icgeY e1_108 (tg := 183) (by decide) (by decide) ?_
              refine go_aloadN e1_183 rfl rfl ?_
              refine go_getfield e1_184 (wd 35 rfl) rfl (j := 1) rfl ?_
              refine go_iload e1_187 rfl ?_
              refine go_iloadN e1_189 rfl ?_
              refine go_iastore e1_190 rfl (k := 2) (by decide) (Nat.le_of_ble_eq_true rfl) ?_
              simp only [List.replicate_succ, List.replicate_zero, List.set_cons_zero, List.set_cons_succ, List.length_nil, List.length_cons, Nat.zero_add, Nat.reduceAdd, List.nil_append, List.cons_append]
              refine go_aloadN e1_191 rfl rfl ?_
              refine go_getfield e1_192 (wd 38 rfl) rfl (j := 2) rfl ?_
              refine go_iload e1_195 rfl ?_
              refine go_lload e1_197 rfl ?_
              refine go_lastore e1_199 rfl (k := 2) (by decide) (Nat.le_of_ble_eq_true rfl) ?_
              simp only [List.replicate_succ, List.replicate_zero, List.set_cons_zero, List.set_cons_succ, List.length_nil, List.length_cons, Nat.zero_add, Nat.reduceAdd, List.nil_append, List.cons_append]
              refine go_return e1_200 rfl (by decide) (by decide) ?_
              refine ⟨rfl, [s3, s2], [0, 1, 3], _, _, rfl, ?_, Nat.le_of_ble_eq_true rfl, ?_⟩
              · rw [hpm.1]; unfold own_D; simp only [List.length_cons, List.length_nil]; (repeat' split) <;> omega
              · exact ⟨⟨by omega, by show _ = own_cnt s3 r0 r1 r2 r3; rw [hpm.2 s3, show ((1 : Int32) - 0).toInt = 1 by decide]; unfold own_cnt; (repeat' split) <;> omega, by show 0 < own_cnt s3 r0 r1 r2 r3; rw [hpm.2 s3]; unfold own_cnt; (repeat' split) <;> omega, fun w hw => by cases hw; omega⟩, ⟨⟨by omega, by show _ = own_cnt s2 r0 r1 r2 r3; rw [hpm.2 s2, show ((3 : Int32) - 1).toInt = 2 by decide]; unfold own_cnt; (repeat' split) <;> omega, by show 0 < own_cnt s2 r0 r1 r2 r3; rw [hpm.2 s2]; unfold own_cnt; (repeat' split) <;> omega, fun w hw => by cases hw⟩, trivial⟩⟩
            · intro z3
              refine go_iloadN e1_38 rfl ?_
              refine go_ifeqN e1_39 (tg := 59) (by decide) (by decide) ?_
              refine go_aloadN e1_42 rfl rfl ?_
              refine go_aloadN e1_43 rfl rfl ?_
              refine go_len e1_44 rfl (n := 4) rfl ?_
              refine go_iconst e1_45 (x := 1) rfl ?_
              refine go_isub e1_46 ?_
              refine go_iloadN e1_47 rfl ?_
              refine go_isub e1_48 ?_
              refine go_iaload e1_49 rfl (k := 0) (by decide) rfl ?_
              refine go_aloadN e1_50 rfl rfl ?_
              refine go_aloadN e1_51 rfl rfl ?_
              refine go_len e1_52 rfl (n := 4) rfl ?_
              refine go_iloadN e1_53 rfl ?_
              refine go_isub e1_54 ?_
              refine go_iaload e1_55 rfl (k := 1) (by decide) rfl ?_
              refine go_iceq e1_56 (tg := 62) (by decide) ?_ ?_
              · intro c56
                have d3 := congrArg Int32.toInt c56
                refine go_iinc_3 e1_62 (z := 1) rfl ?_
                refine go_goto e1_65 (tg := 21) (by decide) ?_
                refine go_iloadN e1_21 rfl ?_
                refine go_aloadN e1_22 rfl rfl ?_
                refine go_len e1_23 rfl (n := 4) rfl ?_
                refine go_icgeY e1_24 (tg := 68) (by decide) (by decide) ?_
                refine go_aloadN e1_68 rfl rfl ?_
                refine go_iload e1_69 rfl ?_
                refine go_newarray e1_71 (wd 0 rfl) (k := 2) rfl (vs := [.int 0, .int 0]) rfl (cap := 2) (by decide) (by decide) (by decide) (by decide) ?_
                simp only [List.replicate_succ, List.replicate_zero, List.set_cons_zero, List.set_cons_succ, List.length_nil, List.length_cons, Nat.zero_add, Nat.reduceAdd, List.nil_append, List.cons_append]
                refine go_putfield e1_73 (wd 33 rfl) (Or.inr ⟨(wd 34 rfl), rfl, rfl⟩) (wd 2 rfl) pf_8 rfl (j := 0) rfl rfl rfl ?_
                simp only [List.replicate_succ, List.replicate_zero, List.set_cons_zero, List.set_cons_succ, List.length_nil, List.length_cons, Nat.zero_add, Nat.reduceAdd, List.nil_append, List.cons_append]
                refine go_aloadN e1_76 rfl rfl ?_
                refine go_iload e1_77 rfl ?_
                refine go_iconst e1_79 (x := 1) rfl ?_
                refine go_iadd e1_80 ?_
                refine go_newarray e1_81 (wd 0 rfl) (k := 3) rfl (vs := [.int 0, .int 0, .int 0]) rfl (cap := 3) (by decide) (by decide) (by decide) (by decide) ?_
                simp only [List.replicate_succ, List.replicate_zero, List.set_cons_zero, List.set_cons_succ, List.length_nil, List.length_cons, Nat.zero_add, Nat.reduceAdd, List.nil_append, List.cons_append]
                refine go_putfield e1_83 (wd 35 rfl) (Or.inr ⟨(wd 36 rfl), rfl, rfl⟩) (wd 2 rfl) pf_8 rfl (j := 1) rfl rfl rfl ?_
                simp only [List.replicate_succ, List.replicate_zero, List.set_cons_zero, List.set_cons_succ, List.length_nil, List.length_cons, Nat.zero_add, Nat.reduceAdd, List.nil_append, List.cons_append]
                refine go_aloadN e1_86 rfl rfl ?_
                refine go_iload e1_87 rfl ?_
                refine go_iconst e1_89 (x := 1) rfl ?_
                refine go_iadd e1_90 ?_
                refine go_newarray e1_91 (wd 37 rfl) (k := 3) rfl (vs := [.long 0, .long 0, .long 0]) rfl (cap := 3) (by decide) (by decide) (by decide) (by decide) ?_
                simp only [List.replicate_succ, List.replicate_zero, List.set_cons_zero, List.set_cons_succ, List.length_nil, List.length_cons, Nat.zero_add, Nat.reduceAdd, List.nil_append, List.cons_append]
                refine go_putfield e1_93 (wd 38 rfl) (Or.inr ⟨(wd 39 rfl), rfl, rfl⟩) (wd 2 rfl) pf_9 rfl (j := 2) rfl rfl rfl ?_
                simp only [List.replicate_succ, List.replicate_zero, List.set_cons_zero, List.set_cons_succ, List.length_nil, List.length_cons, Nat.zero_add, Nat.reduceAdd, List.nil_append, List.cons_append]
                refine go_iconst e1_96 (x := (-1)) rfl ?_
                refine go_istore_5 e1_97 rfl ?_
                refine go_lconst e1_99 (x := 0) rfl ?_
                refine go_lstore_6 e1_100 (Or.inl rfl) rfl ?_
                refine go_iconst e1_102 (x := 0) rfl ?_
                refine go_istore_8 e1_103 rfl ?_
                refine go_iload e1_105 rfl ?_
                refine go_iloadN e1_107 rfl ?_
                refine go_icgeN e1_108 (tg := 183) (by decide) (by decide) ?_
                refine go_aloadN e1_111 rfl rfl ?_
                refine go_aloadN e1_112 rfl rfl ?_
                refine go_len e1_113 rfl (n := 4) rfl ?_
                refine go_iconst e1_114 (x := 1) rfl ?_
                refine go_isub e1_115 ?_
                refine go_iload e1_116 rfl ?_
                refine go_isub e1_118 ?_
                refine go_iaload e1_119 rfl (k := 3) (by decide) rfl ?_
                refine go_istore_9 e1_120 rfl ?_
                refine go_iload e1_122 rfl ?_
                refine go_ifltY e1_124 (tg := 139) (by decide) (by decide) ?_
                refine go_iinc_5 e1_139 (z := 1) rfl ?_
                refine go_aloadN e1_142 rfl rfl ?_
                refine go_getfield e1_143 (wd 33 rfl) rfl (j := 0) rfl ?_
                refine go_iload e1_146 rfl ?_
                refine go_iload e1_148 rfl ?_
                refine go_iastore e1_150 rfl (k := 0) (by decide) (Nat.le_of_ble_eq_true rfl) ?_
                simp only [List.replicate_succ, List.replicate_zero, List.set_cons_zero, List.set_cons_succ, List.length_nil, List.length_cons, Nat.zero_add, Nat.reduceAdd, List.nil_append, List.cons_append]
                refine go_aloadN e1_151 rfl rfl ?_
                refine go_getfield e1_152 (wd 35 rfl) rfl (j := 1) rfl ?_
                refine go_iload e1_155 rfl ?_
                refine go_iload e1_157 rfl ?_
                refine go_iastore e1_159 rfl (k := 0) (by decide) (Nat.le_of_ble_eq_true rfl) ?_
                simp only [List.replicate_succ, List.replicate_zero, List.set_cons_zero, List.set_cons_succ, List.length_nil, List.length_cons, Nat.zero_add, Nat.reduceAdd, List.nil_append, List.cons_append]
                refine go_aloadN e1_160 rfl rfl ?_
                refine go_getfield e1_161 (wd 38 rfl) rfl (j := 2) rfl ?_
                refine go_iload e1_164 rfl ?_
                refine go_lload e1_166 rfl ?_
                refine go_lastore e1_168 rfl (k := 0) (by decide) (Nat.le_of_ble_eq_true rfl) ?_
                simp only [List.replicate_succ, List.replicate_zero, List.set_cons_zero, List.set_cons_succ, List.length_nil, List.length_cons, Nat.zero_add, Nat.reduceAdd, List.nil_append, List.cons_append]
                refine go_lload e1_169 rfl ?_
                refine go_iload e1_171 rfl ?_
                refine go_i2l e1_173 ?_
                refine go_ladd e1_174 ?_
                refine go_lstore_6 e1_175 (Or.inr ⟨_, rfl⟩) rfl ?_
                refine go_iinc_8 e1_177 (z := 1) rfl ?_
                refine go_goto e1_180 (tg := 105) (by decide) ?_
                refine go_iload e1_105 rfl ?_
                refine go_iloadN e1_107 rfl ?_
                refine go_icgeN e1_108 (tg := 183) (by decide) (by decide) ?_
                refine go_aloadN e1_111 rfl rfl ?_
                refine go_aloadN e1_112 rfl rfl ?_
                refine go_len e1_113 rfl (n := 4) rfl ?_
                refine go_iconst e1_114 (x := 1) rfl ?_
                refine go_isub e1_115 ?_
                refine go_iload e1_116 rfl ?_
                refine go_isub e1_118 ?_
                refine go_iaload e1_119 rfl (k := 2) (by decide) rfl ?_
                refine go_istore_9 e1_120 rfl ?_
                refine go_iload e1_122 rfl ?_
                refine go_ifltN e1_124 (tg := 139) (by decide) (by decide) ?_
                refine go_iload e1_127 rfl ?_
                refine go_aloadN e1_129 rfl rfl ?_
                refine go_getfield e1_130 (wd 33 rfl) rfl (j := 0) rfl ?_
                refine go_iload e1_133 rfl ?_
                refine go_iaload e1_135 rfl (k := 0) (by decide) rfl ?_
                refine go_iceqN e1_136 (tg := 169) (by decide) (fun h => by have := congrArg Int32.toInt h; omega) ?_
                refine go_iinc_5 e1_139 (z := 1) rfl ?_
                refine go_aloadN e1_142 rfl rfl ?_
                refine go_getfield e1_143 (wd 33 rfl) rfl (j := 0) rfl ?_
                refine go_iload e1_146 rfl ?_
                refine go_iload e1_148 rfl ?_
                refine go_iastore e1_150 rfl (k := 1) (by decide) (Nat.le_of_ble_eq_true rfl) ?_
                simp only [List.replicate_succ, List.replicate_zero, List.set_cons_zero, List.set_cons_succ, List.length_nil, List.length_cons, Nat.zero_add, Nat.reduceAdd, List.nil_append, List.cons_append]
                refine go_aloadN e1_151 rfl rfl ?_
                refine go_getfield e1_152 (wd 35 rfl) rfl (j := 1) rfl ?_
                refine go_iload e1_155 rfl ?_
                refine go_iload e1_157 rfl ?_
                refine go_iastore e1_159 rfl (k := 1) (by decide) (Nat.le_of_ble_eq_true rfl) ?_
                simp only [List.replicate_succ, List.replicate_zero, List.set_cons_zero, List.set_cons_succ, List.length_nil, List.length_cons, Nat.zero_add, Nat.reduceAdd, List.nil_append, List.cons_append]
                refine go_aloadN e1_160 rfl rfl ?_
                refine go_getfield e1_161 (wd 38 rfl) rfl (j := 2) rfl ?_
                refine go_iload e1_164 rfl ?_
                refine go_lload e1_166 rfl ?_
                refine go_lastore e1_168 rfl (k := 1) (by decide) (Nat.le_of_ble_eq_true rfl) ?_
                simp only [List.replicate_succ, List.replicate_zero, List.set_cons_zero, List.set_cons_succ, List.length_nil, List.length_cons, Nat.zero_add, Nat.reduceAdd, List.nil_append, List.cons_append]
                refine go_lload e1_169 rfl ?_
                refine go_iload e1_171 rfl ?_
                refine go_i2l e1_173 ?_
                refine go_ladd e1_174 ?_
                refine go_lstore_6 e1_175 (Or.inr ⟨_, rfl⟩) rfl ?_
                refine go_iinc_8 e1_177 (z := 1) rfl ?_
                refine go_goto e1_180 (tg := 105) (by decide) ?_
                refine go_iload e1_105 rfl ?_
                refine go_iloadN e1_107 rfl ?_
                refine go_icgeN e1_108 (tg := 183) (by decide) (by decide) ?_
                refine go_aloadN e1_111 rfl rfl ?_
                refine go_aloadN e1_112 rfl rfl ?_
                refine go_len e1_113 rfl (n := 4) rfl ?_
                refine go_iconst e1_114 (x := 1) rfl ?_
                refine go_isub e1_115 ?_
                refine go_iload e1_116 rfl ?_
                refine go_isub e1_118 ?_
                refine go_iaload e1_119 rfl (k := 1) (by decide) rfl ?_
                refine go_istore_9 e1_120 rfl ?_
                refine go_iload e1_122 rfl ?_
                refine go_ifltN e1_124 (tg := 139) (by decide) (by decide) ?_
                refine go_iload e1_127 rfl ?_
                refine go_aloadN e1_129 rfl rfl ?_
                refine go_getfield e1_130 (wd 33 rfl) rfl (j := 0) rfl ?_
                refine go_iload e1_133 rfl ?_
                refine go_iaload e1_135 rfl (k := 1) (by decide) rfl ?_
                refine go_iceqY e1_136 (tg := 169) (by decide) (Int32.toInt_inj.mp (by omega)) ?_
                refine go_lload e1_169 rfl ?_
                refine go_iload e1_171 rfl ?_
                refine go_i2l e1_173 ?_
                refine go_ladd e1_174 ?_
                refine go_lstore_6 e1_175 (Or.inr ⟨_, rfl⟩) rfl ?_
                refine go_iinc_8 e1_177 (z := 1) rfl ?_
                refine go_goto e1_180 (tg := 105) (by decide) ?_
                refine go_iload e1_105 rfl ?_
                refine go_iloadN e1_107 rfl ?_
                refine go_icgeN e1_108 (tg := 183) (by decide) (by decide) ?_
                refine go_aloadN e1_111 rfl rfl ?_
                refine go_aloadN e1_112 rfl rfl ?_
                refine go_len e1_113 rfl (n := 4) rfl ?_
                refine go_iconst e1_114 (x := 1) rfl ?_
                refine go_isub e1_115 ?_
                refine go_iload e1_116 rfl ?_
                refine go_isub e1_118 ?_
                refine go_iaload e1_119 rfl (k := 0) (by decide) rfl ?_
                refine go_istore_9 e1_120 rfl ?_
                refine go_iload e1_122 rfl ?_
                refine go_ifltN e1_124 (tg := 139) (by decide) (by decide) ?_
                refine go_iload e1_127 rfl ?_
                refine go_aloadN e1_129 rfl rfl ?_
                refine go_getfield e1_130 (wd 33 rfl) rfl (j := 0) rfl ?_
                refine go_iload e1_133 rfl ?_
                refine go_iaload e1_135 rfl (k := 1) (by decide) rfl ?_
                refine go_iceqY e1_136 (tg := 169) (by decide) (Int32.toInt_inj.mp (by omega)) ?_
                refine go_lload e1_169 rfl ?_
                refine go_iload e1_171 rfl ?_
                refine go_i2l e1_173 ?_
                refine go_ladd e1_174 ?_
                refine go_lstore_6 e1_175 (Or.inr ⟨_, rfl⟩) rfl ?_
                refine go_iinc_8 e1_177 (z := 1) rfl ?_
                refine go_goto e1_180 (tg := 105) (by decide) ?_
                refine go_iload e1_105 rfl ?_
                refine go_iloadN e1_107 rfl ?_
                refine go_icgeY e1_108 (tg := 183) (by decide) (by decide) ?_
                refine go_aloadN e1_183 rfl rfl ?_
                refine go_getfield e1_184 (wd 35 rfl) rfl (j := 1) rfl ?_
                refine go_iload e1_187 rfl ?_
                refine go_iloadN e1_189 rfl ?_
                refine go_iastore e1_190 rfl (k := 2) (by decide) (Nat.le_of_ble_eq_true rfl) ?_
                simp only [List.replicate_succ, List.replicate_zero, List.set_cons_zero, List.set_cons_succ, List.length_nil, List.length_cons, Nat.zero_add, Nat.reduceAdd, List.nil_append, List.cons_append]
                refine go_aloadN e1_191 rfl rfl ?_
                refine go_getfield e1_192 (wd 38 rfl) rfl (j := 2) rfl ?_
                refine go_iload e1_195 rfl ?_
                refine go_lload e1_197 rfl ?_
                refine go_lastore e1_199 rfl (k := 2) (by decide) (Nat.le_of_ble_eq_true rfl) ?_
                simp only [List.replicate_succ, List.replicate_zero, List.set_cons_zero, List.set_cons_succ, List.length_nil, List.length_cons, Nat.zero_add, Nat.reduceAdd, List.nil_append, List.cons_append]
                refine go_return e1_200 rfl (by decide) (by decide) ?_
                refine ⟨rfl, [s3, s2], [0, 1, 4], _, _, rfl, ?_, Nat.le_of_ble_eq_true rfl, ?_⟩
                · rw [hpm.1]; unfold own_D; simp only [List.length_cons, List.length_nil]; (repeat' split) <;> omega
                · exact ⟨⟨by omega, by show _ = own_cnt s3 r0 r1 r2 r3; rw [hpm.2 s3, show ((1 : Int32) - 0).toInt = 1 by decide]; unfold own_cnt; (repeat' split) <;> omega, by show 0 < own_cnt s3 r0 r1 r2 r3; rw [hpm.2 s3]; unfold own_cnt; (repeat' split) <;> omega, fun w hw => by cases hw; omega⟩, ⟨⟨by omega, by show _ = own_cnt s2 r0 r1 r2 r3; rw [hpm.2 s2, show ((4 : Int32) - 1).toInt = 3 by decide]; unfold own_cnt; (repeat' split) <;> omega, by show 0 < own_cnt s2 r0 r1 r2 r3; rw [hpm.2 s2]; unfold own_cnt; (repeat' split) <;> omega, fun w hw => by cases hw⟩, trivial⟩⟩
              · intro c56
                have d3 : s0.toInt ≠ s1.toInt := fun z => c56 (Int32.toInt_inj.mp z)
                refine go_iinc_4 e1_59 (z := 1) rfl ?_
                refine go_iinc_3 e1_62 (z := 1) rfl ?_
                refine go_goto e1_65 (tg := 21) (by decide) ?_
                refine go_iloadN e1_21 rfl ?_
                refine go_aloadN e1_22 rfl rfl ?_
                refine go_len e1_23 rfl (n := 4) rfl ?_
                refine go_icgeY e1_24 (tg := 68) (by decide) (by decide) ?_
                refine go_aloadN e1_68 rfl rfl ?_
                refine go_iload e1_69 rfl ?_
                refine go_newarray e1_71 (wd 0 rfl) (k := 3) rfl (vs := [.int 0, .int 0, .int 0]) rfl (cap := 3) (by decide) (by decide) (by decide) (by decide) ?_
                simp only [List.replicate_succ, List.replicate_zero, List.set_cons_zero, List.set_cons_succ, List.length_nil, List.length_cons, Nat.zero_add, Nat.reduceAdd, List.nil_append, List.cons_append]
                refine go_putfield e1_73 (wd 33 rfl) (Or.inr ⟨(wd 34 rfl), rfl, rfl⟩) (wd 2 rfl) pf_8 rfl (j := 0) rfl rfl rfl ?_
                simp only [List.replicate_succ, List.replicate_zero, List.set_cons_zero, List.set_cons_succ, List.length_nil, List.length_cons, Nat.zero_add, Nat.reduceAdd, List.nil_append, List.cons_append]
                refine go_aloadN e1_76 rfl rfl ?_
                refine go_iload e1_77 rfl ?_
                refine go_iconst e1_79 (x := 1) rfl ?_
                refine go_iadd e1_80 ?_
                refine go_newarray e1_81 (wd 0 rfl) (k := 4) rfl (vs := [.int 0, .int 0, .int 0, .int 0]) rfl (cap := 4) (by decide) (by decide) (by decide) (by decide) ?_
                simp only [List.replicate_succ, List.replicate_zero, List.set_cons_zero, List.set_cons_succ, List.length_nil, List.length_cons, Nat.zero_add, Nat.reduceAdd, List.nil_append, List.cons_append]
                refine go_putfield e1_83 (wd 35 rfl) (Or.inr ⟨(wd 36 rfl), rfl, rfl⟩) (wd 2 rfl) pf_8 rfl (j := 1) rfl rfl rfl ?_
                simp only [List.replicate_succ, List.replicate_zero, List.set_cons_zero, List.set_cons_succ, List.length_nil, List.length_cons, Nat.zero_add, Nat.reduceAdd, List.nil_append, List.cons_append]
                refine go_aloadN e1_86 rfl rfl ?_
                refine go_iload e1_87 rfl ?_
                refine go_iconst e1_89 (x := 1) rfl ?_
                refine go_iadd e1_90 ?_
                refine go_newarray e1_91 (wd 37 rfl) (k := 4) rfl (vs := [.long 0, .long 0, .long 0, .long 0]) rfl (cap := 4) (by decide) (by decide) (by decide) (by decide) ?_
                simp only [List.replicate_succ, List.replicate_zero, List.set_cons_zero, List.set_cons_succ, List.length_nil, List.length_cons, Nat.zero_add, Nat.reduceAdd, List.nil_append, List.cons_append]
                refine go_putfield e1_93 (wd 38 rfl) (Or.inr ⟨(wd 39 rfl), rfl, rfl⟩) (wd 2 rfl) pf_9 rfl (j := 2) rfl rfl rfl ?_
                simp only [List.replicate_succ, List.replicate_zero, List.set_cons_zero, List.set_cons_succ, List.length_nil, List.length_cons, Nat.zero_add, Nat.reduceAdd, List.nil_append, List.cons_append]
                refine go_iconst e1_96 (x := (-1)) rfl ?_
                refine go_istore_5 e1_97 rfl ?_
                refine go_lconst e1_99 (x := 0) rfl ?_
                refine go_lstore_6 e1_100 (Or.inl rfl) rfl ?_
                refine go_iconst e1_102 (x := 0) rfl ?_
                refine go_istore_8 e1_103 rfl ?_
                refine go_iload e1_105 rfl ?_
                refine go_iloadN e1_107 rfl ?_
                refine go_icgeN e1_108 (tg := 183) (by decide) (by decide) ?_
                refine go_aloadN e1_111 rfl rfl ?_
                refine go_aloadN e1_112 rfl rfl ?_
                refine go_len e1_113 rfl (n := 4) rfl ?_
                refine go_iconst e1_114 (x := 1) rfl ?_
                refine go_isub e1_115 ?_
                refine go_iload e1_116 rfl ?_
                refine go_isub e1_118 ?_
                refine go_iaload e1_119 rfl (k := 3) (by decide) rfl ?_
                refine go_istore_9 e1_120 rfl ?_
                refine go_iload e1_122 rfl ?_
                refine go_ifltY e1_124 (tg := 139) (by decide) (by decide) ?_
                refine go_iinc_5 e1_139 (z := 1) rfl ?_
                refine go_aloadN e1_142 rfl rfl ?_
                refine go_getfield e1_143 (wd 33 rfl) rfl (j := 0) rfl ?_
                refine go_iload e1_146 rfl ?_
                refine go_iload e1_148 rfl ?_
                refine go_iastore e1_150 rfl (k := 0) (by decide) (Nat.le_of_ble_eq_true rfl) ?_
                simp only [List.replicate_succ, List.replicate_zero, List.set_cons_zero, List.set_cons_succ, List.length_nil, List.length_cons, Nat.zero_add, Nat.reduceAdd, List.nil_append, List.cons_append]
                refine go_aloadN e1_151 rfl rfl ?_
                refine go_getfield e1_152 (wd 35 rfl) rfl (j := 1) rfl ?_
                refine go_iload e1_155 rfl ?_
                refine go_iload e1_157 rfl ?_
                refine go_iastore e1_159 rfl (k := 0) (by decide) (Nat.le_of_ble_eq_true rfl) ?_
                simp only [List.replicate_succ, List.replicate_zero, List.set_cons_zero, List.set_cons_succ, List.length_nil, List.length_cons, Nat.zero_add, Nat.reduceAdd, List.nil_append, List.cons_append]
                refine go_aloadN e1_160 rfl rfl ?_
                refine go_getfield e1_161 (wd 38 rfl) rfl (j := 2) rfl ?_
                refine go_iload e1_164 rfl ?_
                refine go_lload e1_166 rfl ?_
                refine go_lastore e1_168 rfl (k := 0) (by decide) (Nat.le_of_ble_eq_true rfl) ?_
                simp only [List.replicate_succ, List.replicate_zero, List.set_cons_zero, List.set_cons_succ, List.length_nil, List.length_cons, Nat.zero_add, Nat.reduceAdd, List.nil_append, List.cons_append]
                refine go_lload e1_169 rfl ?_
                refine go_iload e1_171 rfl ?_
                refine go_i2l e1_173 ?_
                refine go_ladd e1_174 ?_
                refine go_lstore_6 e1_175 (Or.inr ⟨_, rfl⟩) rfl ?_
                refine go_iinc_8 e1_177 (z := 1) rfl ?_
                refine go_goto e1_180 (tg := 105) (by decide) ?_
                refine go_iload e1_105 rfl ?_
                refine go_iloadN e1_107 rfl ?_
                refine go_icgeN e1_108 (tg := 183) (by decide) (by decide) ?_
                refine go_aloadN e1_111 rfl rfl ?_
                refine go_aloadN e1_112 rfl rfl ?_
                refine go_len e1_113 rfl (n := 4) rfl ?_
                refine go_iconst e1_114 (x := 1) rfl ?_
                refine go_isub e1_115 ?_
                refine go_iload e1_116 rfl ?_
                refine go_isub e1_118 ?_
                refine go_iaload e1_119 rfl (k := 2) (by decide) rfl ?_
                refine go_istore_9 e1_120 rfl ?_
                refine go_iload e1_122 rfl ?_
                refine go_ifltN e1_124 (tg := 139) (by decide) (by decide) ?_
                refine go_iload e1_127 rfl ?_
                refine go_aloadN e1_129 rfl rfl ?_
                refine go_getfield e1_130 (wd 33 rfl) rfl (j := 0) rfl ?_
                refine go_iload e1_133 rfl ?_
                refine go_iaload e1_135 rfl (k := 0) (by decide) rfl ?_
                refine go_iceqN e1_136 (tg := 169) (by decide) (fun h => by have := congrArg Int32.toInt h; omega) ?_
                refine go_iinc_5 e1_139 (z := 1) rfl ?_
                refine go_aloadN e1_142 rfl rfl ?_
                refine go_getfield e1_143 (wd 33 rfl) rfl (j := 0) rfl ?_
                refine go_iload e1_146 rfl ?_
                refine go_iload e1_148 rfl ?_
                refine go_iastore e1_150 rfl (k := 1) (by decide) (Nat.le_of_ble_eq_true rfl) ?_
                simp only [List.replicate_succ, List.replicate_zero, List.set_cons_zero, List.set_cons_succ, List.length_nil, List.length_cons, Nat.zero_add, Nat.reduceAdd, List.nil_append, List.cons_append]
                refine go_aloadN e1_151 rfl rfl ?_
                refine go_getfield e1_152 (wd 35 rfl) rfl (j := 1) rfl ?_
                refine go_iload e1_155 rfl ?_
                refine go_iload e1_157 rfl ?_
                refine go_iastore e1_159 rfl (k := 1) (by decide) (Nat.le_of_ble_eq_true rfl) ?_
                simp only [List.replicate_succ, List.replicate_zero, List.set_cons_zero, List.set_cons_succ, List.length_nil, List.length_cons, Nat.zero_add, Nat.reduceAdd, List.nil_append, List.cons_append]
                refine go_aloadN e1_160 rfl rfl ?_
                refine go_getfield e1_161 (wd 38 rfl) rfl (j := 2) rfl ?_
                refine go_iload e1_164 rfl ?_
                refine go_lload e1_166 rfl ?_
                refine go_lastore e1_168 rfl (k := 1) (by decide) (Nat.le_of_ble_eq_true rfl) ?_
                simp only [List.replicate_succ, List.replicate_zero, List.set_cons_zero, List.set_cons_succ, List.length_nil, List.length_cons, Nat.zero_add, Nat.reduceAdd, List.nil_append, List.cons_append]
                refine go_lload e1_169 rfl ?_
                refine go_iload e1_171 rfl ?_
                refine go_i2l e1_173 ?_
                refine go_ladd e1_174 ?_
                refine go_lstore_6 e1_175 (Or.inr ⟨_, rfl⟩) rfl ?_
                refine go_iinc_8 e1_177 (z := 1) rfl ?_
                refine go_goto e1_180 (tg := 105) (by decide) ?_
                refine go_iload e1_105 rfl ?_
                refine go_iloadN e1_107 rfl ?_
                refine go_icgeN e1_108 (tg := 183) (by decide) (by decide) ?_
                refine go_aloadN e1_111 rfl rfl ?_
                refine go_aloadN e1_112 rfl rfl ?_
                refine go_len e1_113 rfl (n := 4) rfl ?_
                refine go_iconst e1_114 (x := 1) rfl ?_
                refine go_isub e1_115 ?_
                refine go_iload e1_116 rfl ?_
                refine go_isub e1_118 ?_
                refine go_iaload e1_119 rfl (k := 1) (by decide) rfl ?_
                refine go_istore_9 e1_120 rfl ?_
                refine go_iload e1_122 rfl ?_
                refine go_ifltN e1_124 (tg := 139) (by decide) (by decide) ?_
                refine go_iload e1_127 rfl ?_
                refine go_aloadN e1_129 rfl rfl ?_
                refine go_getfield e1_130 (wd 33 rfl) rfl (j := 0) rfl ?_
                refine go_iload e1_133 rfl ?_
                refine go_iaload e1_135 rfl (k := 1) (by decide) rfl ?_
                refine go_iceqY e1_136 (tg := 169) (by decide) (Int32.toInt_inj.mp (by omega)) ?_
                refine go_lload e1_169 rfl ?_
                refine go_iload e1_171 rfl ?_
                refine go_i2l e1_173 ?_
                refine go_ladd e1_174 ?_
                refine go_lstore_6 e1_175 (Or.inr ⟨_, rfl⟩) rfl ?_
                refine go_iinc_8 e1_177 (z := 1) rfl ?_
                refine go_goto e1_180 (tg := 105) (by decide) ?_
                refine go_iload e1_105 rfl ?_
                refine go_iloadN e1_107 rfl ?_
                refine go_icgeN e1_108 (tg := 183) (by decide) (by decide) ?_
                refine go_aloadN e1_111 rfl rfl ?_
                refine go_aloadN e1_112 rfl rfl ?_
                refine go_len e1_113 rfl (n := 4) rfl ?_
                refine go_iconst e1_114 (x := 1) rfl ?_
                refine go_isub e1_115 ?_
                refine go_iload e1_116 rfl ?_
                refine go_isub e1_118 ?_
                refine go_iaload e1_119 rfl (k := 0) (by decide) rfl ?_
                refine go_istore_9 e1_120 rfl ?_
                refine go_iload e1_122 rfl ?_
                refine go_ifltN e1_124 (tg := 139) (by decide) (by decide) ?_
                refine go_iload e1_127 rfl ?_
                refine go_aloadN e1_129 rfl rfl ?_
                refine go_getfield e1_130 (wd 33 rfl) rfl (j := 0) rfl ?_
                refine go_iload e1_133 rfl ?_
                refine go_iaload e1_135 rfl (k := 1) (by decide) rfl ?_
                refine go_iceqN e1_136 (tg := 169) (by decide) (fun h => by have := congrArg Int32.toInt h; omega) ?_
                refine go_iinc_5 e1_139 (z := 1) rfl ?_
                refine go_aloadN e1_142 rfl rfl ?_
                refine go_getfield e1_143 (wd 33 rfl) rfl (j := 0) rfl ?_
                refine go_iload e1_146 rfl ?_
                refine go_iload e1_148 rfl ?_
                refine go_iastore e1_150 rfl (k := 2) (by decide) (Nat.le_of_ble_eq_true rfl) ?_
                simp only [List.replicate_succ, List.replicate_zero, List.set_cons_zero, List.set_cons_succ, List.length_nil, List.length_cons, Nat.zero_add, Nat.reduceAdd, List.nil_append, List.cons_append]
                refine go_aloadN e1_151 rfl rfl ?_
                refine go_getfield e1_152 (wd 35 rfl) rfl (j := 1) rfl ?_
                refine go_iload e1_155 rfl ?_
                refine go_iload e1_157 rfl ?_
                refine go_iastore e1_159 rfl (k := 2) (by decide) (Nat.le_of_ble_eq_true rfl) ?_
                simp only [List.replicate_succ, List.replicate_zero, List.set_cons_zero, List.set_cons_succ, List.length_nil, List.length_cons, Nat.zero_add, Nat.reduceAdd, List.nil_append, List.cons_append]
                refine go_aloadN e1_160 rfl rfl ?_
                refine go_getfield e1_161 (wd 38 rfl) rfl (j := 2) rfl ?_
                refine go_iload e1_164 rfl ?_
                refine go_lload e1_166 rfl ?_
                refine go_lastore e1_168 rfl (k := 2) (by decide) (Nat.le_of_ble_eq_true rfl) ?_
                simp only [List.replicate_succ, List.replicate_zero, List.set_cons_zero, List.set_cons_succ, List.length_nil, List.length_cons, Nat.zero_add, Nat.reduceAdd, List.nil_append, List.cons_append]
                refine go_lload e1_169 rfl ?_
                refine go_iload e1_171 rfl ?_
                refine go_i2l e1_173 ?_
                refine go_ladd e1_174 ?_
                refine go_lstore_6 e1_175 (Or.inr ⟨_, rfl⟩) rfl ?_
                refine go_iinc_8 e1_177 (z := 1) rfl ?_
                refine go_goto e1_180 (tg := 105) (by decide) ?_
                refine go_iload e1_105 rfl ?_
                refine go_iloadN e1_107 rfl ?_
                refine go_icgeY e1_108 (tg := 183) (by decide) (by decide) ?_
                refine go_aloadN e1_183 rfl rfl ?_
                refine go_getfield e1_184 (wd 35 rfl) rfl (j := 1) rfl ?_
                refine go_iload e1_187 rfl ?_
                refine go_iloadN e1_189 rfl ?_
                refine go_iastore e1_190 rfl (k := 3) (by decide) (Nat.le_of_ble_eq_true rfl) ?_
                simp only [List.replicate_succ, List.replicate_zero, List.set_cons_zero, List.set_cons_succ, List.length_nil, List.length_cons, Nat.zero_add, Nat.reduceAdd, List.nil_append, List.cons_append]
                refine go_aloadN e1_191 rfl rfl ?_
                refine go_getfield e1_192 (wd 38 rfl) rfl (j := 2) rfl ?_
                refine go_iload e1_195 rfl ?_
                refine go_lload e1_197 rfl ?_
                refine go_lastore e1_199 rfl (k := 3) (by decide) (Nat.le_of_ble_eq_true rfl) ?_
                simp only [List.replicate_succ, List.replicate_zero, List.set_cons_zero, List.set_cons_succ, List.length_nil, List.length_cons, Nat.zero_add, Nat.reduceAdd, List.nil_append, List.cons_append]
                refine go_return e1_200 rfl (by decide) (by decide) ?_
                refine ⟨rfl, [s3, s2, s0], [0, 1, 3, 4], _, _, rfl, ?_, Nat.le_of_ble_eq_true rfl, ?_⟩
                · rw [hpm.1]; unfold own_D; simp only [List.length_cons, List.length_nil]; (repeat' split) <;> omega
                · exact ⟨⟨by omega, by show _ = own_cnt s3 r0 r1 r2 r3; rw [hpm.2 s3, show ((1 : Int32) - 0).toInt = 1 by decide]; unfold own_cnt; (repeat' split) <;> omega, by show 0 < own_cnt s3 r0 r1 r2 r3; rw [hpm.2 s3]; unfold own_cnt; (repeat' split) <;> omega, fun w hw => by cases hw; omega⟩, ⟨⟨by omega, by show _ = own_cnt s2 r0 r1 r2 r3; rw [hpm.2 s2, show ((3 : Int32) - 1).toInt = 2 by decide]; unfold own_cnt; (repeat' split) <;> omega, by show 0 < own_cnt s2 r0 r1 r2 r3; rw [hpm.2 s2]; unfold own_cnt; (repeat' split) <;> omega, fun w hw => by cases hw; omega⟩, ⟨⟨by omega, by show _ = own_cnt s0 r0 r1 r2 r3; rw [hpm.2 s0, show ((4 : Int32) - 3).toInt = 1 by decide]; unfold own_cnt; (repeat' split) <;> omega, by show 0 < own_cnt s0 r0 r1 r2 r3; rw [hpm.2 s0]; unfold own_cnt; (repeat' split) <;> omega, fun w hw => by cases hw⟩, trivial⟩⟩⟩
          · intro c56
            have d2 : s1.toInt ≠ s2.toInt := fun z => c56 (Int32.toInt_inj.mp z)
            refine go_iinc_4 e1_59 (z := 1) rfl ?_
            refine go_iinc_3 e1_62 (z := 1) rfl ?_
            refine go_goto e1_65 (tg := 21) (by decide) ?_
            refine go_iloadN e1_21 rfl ?_
            refine go_aloadN e1_22 rfl rfl ?_
            refine go_len e1_23 rfl (n := 4) rfl ?_
            refine go_icgeN e1_24 (tg := 68) (by decide) (by decide) ?_
            refine go_aloadN e1_27 rfl rfl ?_
            refine go_aloadN e1_28 rfl rfl ?_
            refine go_len e1_29 rfl (n := 4) rfl ?_
            refine go_iconst e1_30 (x := 1) rfl ?_
            refine go_isub e1_31 ?_
            refine go_iloadN e1_32 rfl ?_
            refine go_isub e1_33 ?_
            refine go_iaload e1_34 rfl (k := 0) (by decide) rfl ?_
            refine go_ifle e1_35 (tg := 68) (by decide) ?_ ?_
            · intro z3
              refine go_aloadN e1_68 rfl rfl ?_
              refine go_iload e1_69 rfl ?_
              refine go_newarray e1_71 (wd 0 rfl) (k := 3) rfl (vs := [.int 0, .int 0, .int 0]) rfl (cap := 3) (by decide) (by decide) (by decide) (by decide) ?_
              simp only [List.replicate_succ, List.replicate_zero, List.set_cons_zero, List.set_cons_succ, List.length_nil, List.length_cons, Nat.zero_add, Nat.reduceAdd, List.nil_append, List.cons_append]
              refine go_putfield e1_73 (wd 33 rfl) (Or.inr ⟨(wd 34 rfl), rfl, rfl⟩) (wd 2 rfl) pf_8 rfl (j := 0) rfl rfl rfl ?_
              simp only [List.replicate_succ, List.replicate_zero, List.set_cons_zero, List.set_cons_succ, List.length_nil, List.length_cons, Nat.zero_add, Nat.reduceAdd, List.nil_append, List.cons_append]
              refine go_aloadN e1_76 rfl rfl ?_
              refine go_iload e1_77 rfl ?_
              refine go_iconst e1_79 (x := 1) rfl ?_
              refine go_iadd e1_80 ?_
              refine go_newarray e1_81 (wd 0 rfl) (k := 4) rfl (vs := [.int 0, .int 0, .int 0, .int 0]) rfl (cap := 4) (by decide) (by decide) (by decide) (by decide) ?_
              simp only [List.replicate_succ, List.replicate_zero, List.set_cons_zero, List.set_cons_succ, List.length_nil, List.length_cons, Nat.zero_add, Nat.reduceAdd, List.nil_append, List.cons_append]
              refine go_putfield e1_83 (wd 35 rfl) (Or.inr ⟨(wd 36 rfl), rfl, rfl⟩) (wd 2 rfl) pf_8 rfl (j := 1) rfl rfl rfl ?_
              simp only [List.replicate_succ, List.replicate_zero, List.set_cons_zero, List.set_cons_succ, List.length_nil, List.length_cons, Nat.zero_add, Nat.reduceAdd, List.nil_append, List.cons_append]
              refine go_aloadN e1_86 rfl rfl ?_
              refine go_iload e1_87 rfl ?_
              refine go_iconst e1_89 (x := 1) rfl ?_
              refine go_iadd e1_90 ?_
              refine go_newarray e1_91 (wd 37 rfl) (k := 4) rfl (vs := [.long 0, .long 0, .long 0, .long 0]) rfl (cap := 4) (by decide) (by decide) (by decide) (by decide) ?_
              simp only [List.replicate_succ, List.replicate_zero, List.set_cons_zero, List.set_cons_succ, List.length_nil, List.length_cons, Nat.zero_add, Nat.reduceAdd, List.nil_append, List.cons_append]
              refine go_putfield e1_93 (wd 38 rfl) (Or.inr ⟨(wd 39 rfl), rfl, rfl⟩) (wd 2 rfl) pf_9 rfl (j := 2) rfl rfl rfl ?_
              simp only [List.replicate_succ, List.replicate_zero, List.set_cons_zero, List.set_cons_succ, List.length_nil, List.length_cons, Nat.zero_add, Nat.reduceAdd, List.nil_append, List.cons_append]
              refine go_iconst e1_96 (x := (-1)) rfl ?_
              refine go_istore_5 e1_97 rfl ?_
              refine go_lconst e1_99 (x := 0) rfl ?_
              refine go_lstore_6 e1_100 (Or.inl rfl) rfl ?_
              refine go_iconst e1_102 (x := 0) rfl ?_
              refine go_istore_8 e1_103 rfl ?_
              refine go_iload e1_105 rfl ?_
              refine go_iloadN e1_107 rfl ?_
              refine go_icgeN e1_108 (tg := 183) (by decide) (by decide) ?_
              refine go_aloadN e1_111 rfl rfl ?_
              refine go_aloadN e1_112 rfl rfl ?_
              refine go_len e1_113 rfl (n := 4) rfl ?_
              refine go_iconst e1_114 (x := 1) rfl ?_
              refine go_isub e1_115 ?_
              refine go_iload e1_116 rfl ?_
              refine go_isub e1_118 ?_
              refine go_iaload e1_119 rfl (k := 3) (by decide) rfl ?_
              refine go_istore_9 e1_120 rfl ?_
              refine go_iload e1_122 rfl ?_
              refine go_ifltY e1_124 (tg := 139) (by decide) (by decide) ?_
              refine go_iinc_5 e1_139 (z := 1) rfl ?_
              refine go_aloadN e1_142 rfl rfl ?_
              refine go_getfield e1_143 (wd 33 rfl) rfl (j := 0) rfl ?_
              refine go_iload e1_146 rfl ?_
              refine go_iload e1_148 rfl ?_
              refine go_iastore e1_150 rfl (k := 0) (by decide) (Nat.le_of_ble_eq_true rfl) ?_
              simp only [List.replicate_succ, List.replicate_zero, List.set_cons_zero, List.set_cons_succ, List.length_nil, List.length_cons, Nat.zero_add, Nat.reduceAdd, List.nil_append, List.cons_append]
              refine go_aloadN e1_151 rfl rfl ?_
              refine go_getfield e1_152 (wd 35 rfl) rfl (j := 1) rfl ?_
              refine go_iload e1_155 rfl ?_
              refine go_iload e1_157 rfl ?_
              refine go_iastore e1_159 rfl (k := 0) (by decide) (Nat.le_of_ble_eq_true rfl) ?_
              simp only [List.replicate_succ, List.replicate_zero, List.set_cons_zero, List.set_cons_succ, List.length_nil, List.length_cons, Nat.zero_add, Nat.reduceAdd, List.nil_append, List.cons_append]
              refine go_aloadN e1_160 rfl rfl ?_
              refine go_getfield e1_161 (wd 38 rfl) rfl (j := 2) rfl ?_
              refine go_iload e1_164 rfl ?_
              refine go_lload e1_166 rfl ?_
              refine go_lastore e1_168 rfl (k := 0) (by decide) (Nat.le_of_ble_eq_true rfl) ?_
              simp only [List.replicate_succ, List.replicate_zero, List.set_cons_zero, List.set_cons_succ, List.length_nil, List.length_cons, Nat.zero_add, Nat.reduceAdd, List.nil_append, List.cons_append]
              refine go_lload e1_169 rfl ?_
              refine go_iload e1_171 rfl ?_
              refine go_i2l e1_173 ?_
              refine go_ladd e1_174 ?_
              refine go_lstore_6 e1_175 (Or.inr ⟨_, rfl⟩) rfl ?_
              refine go_iinc_8 e1_177 (z := 1) rfl ?_
              refine go_goto e1_180 (tg := 105) (by decide) ?_
              refine go_iload e1_105 rfl ?_
              refine go_iloadN e1_107 rfl ?_
              refine go_icgeN e1_108 (tg := 183) (by decide) (by decide) ?_
              refine go_aloadN e1_111 rfl rfl ?_
              refine go_aloadN e1_112 rfl rfl ?_
              refine go_len e1_113 rfl (n := 4) rfl ?_
              refine go_iconst e1_114 (x := 1) rfl ?_
              refine go_isub e1_115 ?_
              refine go_iload e1_116 rfl ?_
              refine go_isub e1_118 ?_
              refine go_iaload e1_119 rfl (k := 2) (by decide) rfl ?_
              refine go_istore_9 e1_120 rfl ?_
              refine go_iload e1_122 rfl ?_
              refine go_ifltN e1_124 (tg := 139) (by decide) (by decide) ?_
              refine go_iload e1_127 rfl ?_
              refine go_aloadN e1_129 rfl rfl ?_
              refine go_getfield e1_130 (wd 33 rfl) rfl (j := 0) rfl ?_
              refine go_iload e1_133 rfl ?_
              refine go_iaload e1_135 rfl (k := 0) (by decide) rfl ?_
              refine go_iceqN e1_136 (tg := 169) (by decide) (fun h => by have := congrArg Int32.toInt h; omega) ?_
              refine go_iinc_5 e1_139 (z := 1) rfl ?_
              refine go_aloadN e1_142 rfl rfl ?_
              refine go_getfield e1_143 (wd 33 rfl) rfl (j := 0) rfl ?_
              refine go_iload e1_146 rfl ?_
              refine go_iload e1_148 rfl ?_
              refine go_iastore e1_150 rfl (k := 1) (by decide) (Nat.le_of_ble_eq_true rfl) ?_
              simp only [List.replicate_succ, List.replicate_zero, List.set_cons_zero, List.set_cons_succ, List.length_nil, List.length_cons, Nat.zero_add, Nat.reduceAdd, List.nil_append, List.cons_append]
              refine go_aloadN e1_151 rfl rfl ?_
              refine go_getfield e1_152 (wd 35 rfl) rfl (j := 1) rfl ?_
              refine go_iload e1_155 rfl ?_
              refine go_iload e1_157 rfl ?_
              refine go_iastore e1_159 rfl (k := 1) (by decide) (Nat.le_of_ble_eq_true rfl) ?_
              simp only [List.replicate_succ, List.replicate_zero, List.set_cons_zero, List.set_cons_succ, List.length_nil, List.length_cons, Nat.zero_add, Nat.reduceAdd, List.nil_append, List.cons_append]
              refine go_aloadN e1_160 rfl rfl ?_
              refine go_getfield e1_161 (wd 38 rfl) rfl (j := 2) rfl ?_
              refine go_iload e1_164 rfl ?_
              refine go_lload e1_166 rfl ?_
              refine go_lastore e1_168 rfl (k := 1) (by decide) (Nat.le_of_ble_eq_true rfl) ?_
              simp only [List.replicate_succ, List.replicate_zero, List.set_cons_zero, List.set_cons_succ, List.length_nil, List.length_cons, Nat.zero_add, Nat.reduceAdd, List.nil_append, List.cons_append]
              refine go_lload e1_169 rfl ?_
              refine go_iload e1_171 rfl ?_
              refine go_i2l e1_173 ?_
              refine go_ladd e1_174 ?_
              refine go_lstore_6 e1_175 (Or.inr ⟨_, rfl⟩) rfl ?_
              refine go_iinc_8 e1_177 (z := 1) rfl ?_
              refine go_goto e1_180 (tg := 105) (by decide) ?_
              refine go_iload e1_105 rfl ?_
              refine go_iloadN e1_107 rfl ?_
              refine go_icgeN e1_108 (tg := 183) (by decide) (by decide) ?_
              refine go_aloadN e1_111 rfl rfl ?_
              refine go_aloadN e1_112 rfl rfl ?_
              refine go_len e1_113 rfl (n := 4) rfl ?_
              refine go_iconst e1_114 (x := 1) rfl ?_
              refine go_isub e1_115 ?_
              refine go_iload e1_116 rfl ?_
              refine go_isub e1_118 ?_
              refine go_iaload e1_119 rfl (k := 1) (by decide) rfl ?_
              refine go_istore_9 e1_120 rfl ?_
              refine go_iload e1_122 rfl ?_
              refine go_ifltN e1_124 (tg := 139) (by decide) (by decide) ?_
              refine go_iload e1_127 rfl ?_
              refine go_aloadN e1_129 rfl rfl ?_
              refine go_getfield e1_130 (wd 33 rfl) rfl (j := 0) rfl ?_
              refine go_iload e1_133 rfl ?_
              refine go_iaload e1_135 rfl (k := 1) (by decide) rfl ?_
              refine go_iceqN e1_136 (tg := 169) (by decide) (fun h => by have := congrArg Int32.toInt h; omega) ?_
              refine go_iinc_5 e1_139 (z := 1) rfl ?_
              refine go_aloadN e1_142 rfl rfl ?_
              refine go_getfield e1_143 (wd 33 rfl) rfl (j := 0) rfl ?_
              refine go_iload e1_146 rfl ?_
              refine go_iload e1_148 rfl ?_
              refine go_iastore e1_150 rfl (k := 2) (by decide) (Nat.le_of_ble_eq_true rfl) ?_
              simp only [List.replicate_succ, List.replicate_zero, List.set_cons_zero, List.set_cons_succ, List.length_nil, List.length_cons, Nat.zero_add, Nat.reduceAdd, List.nil_append, List.cons_append]
              refine go_aloadN e1_151 rfl rfl ?_
              refine go_getfield e1_152 (wd 35 rfl) rfl (j := 1) rfl ?_
              refine go_iload e1_155 rfl ?_
              refine go_iload e1_157 rfl ?_
              refine go_iastore e1_159 rfl (k := 2) (by decide) (Nat.le_of_ble_eq_true rfl) ?_
              simp only [List.replicate_succ, List.replicate_zero, List.set_cons_zero, List.set_cons_succ, List.length_nil, List.length_cons, Nat.zero_add, Nat.reduceAdd, List.nil_append, List.cons_append]
              refine go_aloadN e1_160 rfl rfl ?_
              refine go_getfield e1_161 (wd 38 rfl) rfl (j := 2) rfl ?_
              refine go_iload e1_164 rfl ?_
              refine go_lload e1_166 rfl ?_
              refine go_lastore e1_168 rfl (k := 2) (by decide) (Nat.le_of_ble_eq_true rfl) ?_
              simp only [List.replicate_succ, List.replicate_zero, List.set_cons_zero, List.set_cons_succ, List.length_nil, List.length_cons, Nat.zero_add, Nat.reduceAdd, List.nil_append, List.cons_append]
              refine go_lload e1_169 rfl ?_
              refine go_iload e1_171 rfl ?_
              refine go_i2l e1_173 ?_
              refine go_ladd e1_174 ?_
              refine go_lstore_6 e1_175 (Or.inr ⟨_, rfl⟩) rfl ?_
              refine go_iinc_8 e1_177 (z := 1) rfl ?_
              refine go_goto e1_180 (tg := 105) (by decide) ?_
              refine go_iload e1_105 rfl ?_
              refine go_iloadN e1_107 rfl ?_
              refine go_icgeY e1_108 (tg := 183) (by decide) (by decide) ?_
              refine go_aloadN e1_183 rfl rfl ?_
              refine go_getfield e1_184 (wd 35 rfl) rfl (j := 1) rfl ?_
              refine go_iload e1_187 rfl ?_
              refine go_iloadN e1_189 rfl ?_
              refine go_iastore e1_190 rfl (k := 3) (by decide) (Nat.le_of_ble_eq_true rfl) ?_
              simp only [List.replicate_succ, List.replicate_zero, List.set_cons_zero, List.set_cons_succ, List.length_nil, List.length_cons, Nat.zero_add, Nat.reduceAdd, List.nil_append, List.cons_append]
              refine go_aloadN e1_191 rfl rfl ?_
              refine go_getfield e1_192 (wd 38 rfl) rfl (j := 2) rfl ?_
              refine go_iload e1_195 rfl ?_
              refine go_lload e1_197 rfl ?_
              refine go_lastore e1_199 rfl (k := 3) (by decide) (Nat.le_of_ble_eq_true rfl) ?_
              simp only [List.replicate_succ, List.replicate_zero, List.set_cons_zero, List.set_cons_succ, List.length_nil, List.length_cons, Nat.zero_add, Nat.reduceAdd, List.nil_append, List.cons_append]
              refine go_return e1_200 rfl (by decide) (by decide) ?_
              refine ⟨rfl, [s3, s2, s1], [0, 1, 2, 3], _, _, rfl, ?_, Nat.le_of_ble_eq_true rfl, ?_⟩
              · rw [hpm.1]; unfold own_D; simp only [List.length_cons, List.length_nil]; (repeat' split) <;> omega
              · exact ⟨⟨by omega, by show _ = own_cnt s3 r0 r1 r2 r3; rw [hpm.2 s3, show ((1 : Int32) - 0).toInt = 1 by decide]; unfold own_cnt; (repeat' split) <;> omega, by show 0 < own_cnt s3 r0 r1 r2 r3; rw [hpm.2 s3]; unfold own_cnt; (repeat' split) <;> omega, fun w hw => by cases hw; omega⟩, ⟨⟨by omega, by show _ = own_cnt s2 r0 r1 r2 r3; rw [hpm.2 s2, show ((2 : Int32) - 1).toInt = 1 by decide]; unfold own_cnt; (repeat' split) <;> omega, by show 0 < own_cnt s2 r0 r1 r2 r3; rw [hpm.2 s2]; unfold own_cnt; (repeat' split) <;> omega, fun w hw => by cases hw; omega⟩, ⟨⟨by omega, by show _ = own_cnt s1 r0 r1 r2 r3; rw [hpm.2 s1, show ((3 : Int32) - 2).toInt = 1 by decide]; unfold own_cnt; (repeat' split) <;> omega, by show 0 < own_cnt s1 r0 r1 r2 r3; rw [hpm.2 s1]; unfold own_cnt; (repeat' split) <;> omega, fun w hw => by cases hw⟩, trivial⟩⟩⟩
            · intro z3
              refine go_iloadN e1_38 rfl ?_
              refine go_ifeqN e1_39 (tg := 59) (by decide) (by decide) ?_
              refine go_aloadN e1_42 rfl rfl ?_
              refine go_aloadN e1_43 rfl rfl ?_
              refine go_len e1_44 rfl (n := 4) rfl ?_
              refine go_iconst e1_45 (x := 1) rfl ?_
              refine go_isub e1_46 ?_
              refine go_iloadN e1_47 rfl ?_
              refine go_isub e1_48 ?_
              refine go_iaload e1_49 rfl (k := 0) (by decide) rfl ?_
              refine go_aloadN e1_50 rfl rfl ?_
              refine go_aloadN e1_51 rfl rfl ?_
              refine go_len e1_52 rfl (n := 4) rfl ?_
              refine go_iloadN e1_53 rfl ?_
              refine go_isub e1_54 ?_
              refine go_iaload e1_55 rfl (k := 1) (by decide) rfl ?_
              refine go_iceq e1_56 (tg := 62) (by decide) ?_ ?_
              · intro c56
                have d3 := congrArg Int32.toInt c56
                refine go_iinc_3 e1_62 (z := 1) rfl ?_
                refine go_goto e1_65 (tg := 21) (by decide) ?_
                refine go_iloadN e1_21 rfl ?_
                refine go_aloadN e1_22 rfl rfl ?_
                refine go_len e1_23 rfl (n := 4) rfl ?_
                refine go_icgeY e1_24 (tg := 68) (by decide) (by decide) ?_
                refine go_aloadN e1_68 rfl rfl ?_
                refine go_iload e1_69 rfl ?_
                refine go_newarray e1_71 (wd 0 rfl) (k := 3) rfl (vs := [.int 0, .int 0, .int 0]) rfl (cap := 3) (by decide) (by decide) (by decide) (by decide) ?_
                simp only [List.replicate_succ, List.replicate_zero, List.set_cons_zero, List.set_cons_succ, List.length_nil, List.length_cons, Nat.zero_add, Nat.reduceAdd, List.nil_append, List.cons_append]
                refine go_putfield e1_73 (wd 33 rfl) (Or.inr ⟨(wd 34 rfl), rfl, rfl⟩) (wd 2 rfl) pf_8 rfl (j := 0) rfl rfl rfl ?_
                simp only [List.replicate_succ, List.replicate_zero, List.set_cons_zero, List.set_cons_succ, List.length_nil, List.length_cons, Nat.zero_add, Nat.reduceAdd, List.nil_append, List.cons_append]
                refine go_aloadN e1_76 rfl rfl ?_
                refine go_iload e1_77 rfl ?_
                refine go_iconst e1_79 (x := 1) rfl ?_
                refine go_iadd e1_80 ?_
                refine go_newarray e1_81 (wd 0 rfl) (k := 4) rfl (vs := [.int 0, .int 0, .int 0, .int 0]) rfl (cap := 4) (by decide) (by decide) (by decide) (by decide) ?_
                simp only [List.replicate_succ, List.replicate_zero, List.set_cons_zero, List.set_cons_succ, List.length_nil, List.length_cons, Nat.zero_add, Nat.reduceAdd, List.nil_append, List.cons_append]
                refine go_putfield e1_83 (wd 35 rfl) (Or.inr ⟨(wd 36 rfl), rfl, rfl⟩) (wd 2 rfl) pf_8 rfl (j := 1) rfl rfl rfl ?_
                simp only [List.replicate_succ, List.replicate_zero, List.set_cons_zero, List.set_cons_succ, List.length_nil, List.length_cons, Nat.zero_add, Nat.reduceAdd, List.nil_append, List.cons_append]
                refine go_aloadN e1_86 rfl rfl ?_
                refine go_iload e1_87 rfl ?_
                refine go_iconst e1_89 (x := 1) rfl ?_
                refine go_iadd e1_90 ?_
                refine go_newarray e1_91 (wd 37 rfl) (k := 4) rfl (vs := [.long 0, .long 0, .long 0, .long 0]) rfl (cap := 4) (by decide) (by decide) (by decide) (by decide) ?_
                simp only [List.replicate_succ, List.replicate_zero, List.set_cons_zero, List.set_cons_succ, List.length_nil, List.length_cons, Nat.zero_add, Nat.reduceAdd, List.nil_append, List.cons_append]
                refine go_putfield e1_93 (wd 38 rfl) (Or.inr ⟨(wd 39 rfl), rfl, rfl⟩) (wd 2 rfl) pf_9 rfl (j := 2) rfl rfl rfl ?_
                simp only [List.replicate_succ, List.replicate_zero, List.set_cons_zero, List.set_cons_succ, List.length_nil, List.length_cons, Nat.zero_add, Nat.reduceAdd, List.nil_append, List.cons_append]
                refine go_iconst e1_96 (x := (-1)) rfl ?_
                refine go_istore_5 e1_97 rfl ?_
                refine go_lconst e1_99 (x := 0) rfl ?_
                refine go_lstore_6 e1_100 (Or.inl rfl) rfl ?_
                refine go_iconst e1_102 (x := 0) rfl ?_
                refine go_istore_8 e1_103 rfl ?_
                refine go_iload e1_105 rfl ?_
                refine go_iloadN e1_107 rfl ?_
                refine go_icgeN e1_108 (tg := 183) (by decide) (by decide) ?_
                refine go_aloadN e1_111 rfl rfl ?_
                refine go_aloadN e1_112 rfl rfl ?_
                refine go_len e1_113 rfl (n := 4) rfl ?_
                refine go_iconst e1_114 (x := 1) rfl ?_
                refine go_isub e1_115 ?_
                refine go_iload e1_116 rfl ?_
                refine go_isub e1_118 ?_
                refine go_iaload e1_119 rfl (k := 3) (by decide) rfl ?_
                refine go_istore_9 e1_120 rfl ?_
                refine go_iload e1_122 rfl ?_
                refine go_ifltY e1_124 (tg := 139) (by decide) (by decide) ?_
                refine go_iinc_5 e1_139 (z := 1) rfl ?_
                refine go_aloadN e1_142 rfl rfl ?_
                refine go_getfield e1_143 (wd 33 rfl) rfl (j := 0) rfl ?_
                refine go_iload e1_146 rfl ?_
                refine go_iload e1_148 rfl ?_
                refine go_iastore e1_150 rfl (k := 0) (by decide) (Nat.le_of_ble_eq_true rfl) ?_
                simp only [List.replicate_succ, List.replicate_zero, List.set_cons_zero, List.set_cons_succ, List.length_nil, List.length_cons, Nat.zero_add, Nat.reduceAdd, List.nil_append, List.cons_append]
                refine go_aloadN e1_151 rfl rfl ?_
                refine go_getfield e1_152 (wd 35 rfl) rfl (j := 1) rfl ?_
                refine go_iload e1_155 rfl ?_
                refine go_iload e1_157 rfl ?_
                refine go_iastore e1_159 rfl (k := 0) (by decide) (Nat.le_of_ble_eq_true rfl) ?_
                simp only [List.replicate_succ, List.replicate_zero, List.set_cons_zero, List.set_cons_succ, List.length_nil, List.length_cons, Nat.zero_add, Nat.reduceAdd, List.nil_append, List.cons_append]
                refine go_aloadN e1_160 rfl rfl ?_
                refine go_getfield e1_161 (wd 38 rfl) rfl (j := 2) rfl ?_
                refine go_iload e1_164 rfl ?_
                refine go_lload e1_166 rfl ?_
                refine go_lastore e1_168 rfl (k := 0) (by decide) (Nat.le_of_ble_eq_true rfl) ?_
                simp only [List.replicate_succ, List.replicate_zero, List.set_cons_zero, List.set_cons_succ, List.length_nil, List.length_cons, Nat.zero_add, Nat.reduceAdd, List.nil_append, List.cons_append]
                refine go_lload e1_169 rfl ?_
                refine go_iload e1_171 rfl ?_
                refine go_i2l e1_173 ?_
                refine go_ladd e1_174 ?_
                refine go_lstore_6 e1_175 (Or.inr ⟨_, rfl⟩) rfl ?_
                refine go_iinc_8 e1_177 (z := 1) rfl ?_
                refine go_goto e1_180 (tg := 105) (by decide) ?_
                refine go_iload e1_105 rfl ?_
                refine go_iloadN e1_107 rfl ?_
                refine go_icgeN e1_108 (tg := 183) (by decide) (by decide) ?_
                refine go_aloadN e1_111 rfl rfl ?_
                refine go_aloadN e1_112 rfl rfl ?_
                refine go_len e1_113 rfl (n := 4) rfl ?_
                refine go_iconst e1_114 (x := 1) rfl ?_
                refine go_isub e1_115 ?_
                refine go_iload e1_116 rfl ?_
                refine go_isub e1_118 ?_
                refine go_iaload e1_119 rfl (k := 2) (by decide) rfl ?_
                refine go_istore_9 e1_120 rfl ?_
                refine go_iload e1_122 rfl ?_
                refine go_ifltN e1_124 (tg := 139) (by decide) (by decide) ?_
                refine go_iload e1_127 rfl ?_
                refine go_aloadN e1_129 rfl rfl ?_
                refine go_getfield e1_130 (wd 33 rfl) rfl (j := 0) rfl ?_
                refine go_iload e1_133 rfl ?_
                refine go_iaload e1_135 rfl (k := 0) (by decide) rfl ?_
                refine go_iceqN e1_136 (tg := 169) (by decide) (fun h => by have := congrArg Int32.toInt h; omega) ?_
                refine go_iinc_5 e1_139 (z := 1) rfl ?_
                refine go_aloadN e1_142 rfl rfl ?_
                refine go_getfield e1_143 (wd 33 rfl) rfl (j := 0) rfl ?_
                refine go_iload e1_146 rfl ?_
                refine go_iload e1_148 rfl ?_
                refine go_iastore e1_150 rfl (k := 1) (by decide) (Nat.le_of_ble_eq_true rfl) ?_
                simp only [List.replicate_succ, List.replicate_zero, List.set_cons_zero, List.set_cons_succ, List.length_nil, List.length_cons, Nat.zero_add, Nat.reduceAdd, List.nil_append, List.cons_append]
                refine go_aloadN e1_151 rfl rfl ?_
                refine go_getfield e1_152 (wd 35 rfl) rfl (j := 1) rfl ?_
                refine go_iload e1_155 rfl ?_
                refine go_iload e1_157 rfl ?_
                refine go_iastore e1_159 rfl (k := 1) (by decide) (Nat.le_of_ble_eq_true rfl) ?_
                simp only [List.replicate_succ, List.replicate_zero, List.set_cons_zero, List.set_cons_succ, List.length_nil, List.length_cons, Nat.zero_add, Nat.reduceAdd, List.nil_append, List.cons_append]
                refine go_aloadN e1_160 rfl rfl ?_
                refine go_getfield e1_161 (wd 38 rfl) rfl (j := 2) rfl ?_
                refine go_iload e1_164 rfl ?_
                refine go_lload e1_166 rfl ?_
                refine go_lastore e1_168 rfl (k := 1) (by decide) (Nat.le_of_ble_eq_true rfl) ?_
                simp only [List.replicate_succ, List.replicate_zero, List.set_cons_zero, List.set_cons_succ, List.length_nil, List.length_cons, Nat.zero_add, Nat.reduceAdd, List.nil_append, List.cons_append]
                refine go_lload e1_169 rfl ?_
                refine go_iload e1_171 rfl ?_
                refine go_i2l e1_173 ?_
                refine go_ladd e1_174 ?_
                refine go_lstore_6 e1_175 (Or.inr ⟨_, rfl⟩) rfl ?_
                refine go_iinc_8 e1_177 (z := 1) rfl ?_
                refine go_goto e1_180 (tg := 105) (by decide) ?_
                refine go_iload e1_105 rfl ?_
                refine go_iloadN e1_107 rfl ?_
                refine go_icgeN e1_108 (tg := 183) (by decide) (by decide) ?_
                refine go_aloadN e1_111 rfl rfl ?_
                refine go_aloadN e1_112 rfl rfl ?_
                refine go_len e1_113 rfl (n := 4) rfl ?_
                refine go_iconst e1_114 (x := 1) rfl ?_
                refine go_isub e1_115 ?_
                refine go_iload e1_116 rfl ?_
                refine go_isub e1_118 ?_
                refine go_iaload e1_119 rfl (k := 1) (by decide) rfl ?_
                refine go_istore_9 e1_120 rfl ?_
                refine go_iload e1_122 rfl ?_
                refine go_ifltN e1_124 (tg := 139) (by decide) (by decide) ?_
                refine go_iload e1_127 rfl ?_
                refine go_aloadN e1_129 rfl rfl ?_
                refine go_getfield e1_130 (wd 33 rfl) rfl (j := 0) rfl ?_
                refine go_iload e1_133 rfl ?_
                refine go_iaload e1_135 rfl (k := 1) (by decide) rfl ?_
                refine go_iceqN e1_136 (tg := 169) (by decide) (fun h => by have := congrArg Int32.toInt h; omega) ?_
                refine go_iinc_5 e1_139 (z := 1) rfl ?_
                refine go_aloadN e1_142 rfl rfl ?_
                refine go_getfield e1_143 (wd 33 rfl) rfl (j := 0) rfl ?_
                refine go_iload e1_146 rfl ?_
                refine go_iload e1_148 rfl ?_
                refine go_iastore e1_150 rfl (k := 2) (by decide) (Nat.le_of_ble_eq_true rfl) ?_
                simp only [List.replicate_succ, List.replicate_zero, List.set_cons_zero, List.set_cons_succ, List.length_nil, List.length_cons, Nat.zero_add, Nat.reduceAdd, List.nil_append, List.cons_append]
                refine go_aloadN e1_151 rfl rfl ?_
                refine go_getfield e1_152 (wd 35 rfl) rfl (j := 1) rfl ?_
                refine go_iload e1_155 rfl ?_
                refine go_iload e1_157 rfl ?_
                refine go_iastore e1_159 rfl (k := 2) (by decide) (Nat.le_of_ble_eq_true rfl) ?_
                simp only [List.replicate_succ, List.replicate_zero, List.set_cons_zero, List.set_cons_succ, List.length_nil, List.length_cons, Nat.zero_add, Nat.reduceAdd, List.nil_append, List.cons_append]
                refine go_aloadN e1_160 rfl rfl ?_
                refine go_getfield e1_161 (wd 38 rfl) rfl (j := 2) rfl ?_
                refine go_iload e1_164 rfl ?_
                refine go_lload e1_166 rfl ?_
                refine go_lastore e1_168 rfl (k := 2) (by decide) (Nat.le_of_ble_eq_true rfl) ?_
                simp only [List.replicate_succ, List.replicate_zero, List.set_cons_zero, List.set_cons_succ, List.length_nil, List.length_cons, Nat.zero_add, Nat.reduceAdd, List.nil_append, List.cons_append]
                refine go_lload e1_169 rfl ?_
                refine go_iload e1_171 rfl ?_
                refine go_i2l e1_173 ?_
                refine go_ladd e1_174 ?_
                refine go_lstore_6 e1_175 (Or.inr ⟨_, rfl⟩) rfl ?_
                refine go_iinc_8 e1_177 (z := 1) rfl ?_
                refine go_goto e1_180 (tg := 105) (by decide) ?_
                refine go_iload e1_105 rfl ?_
                refine go_iloadN e1_107 rfl ?_
                refine go_icgeN e1_108 (tg := 183) (by decide) (by decide) ?_
                refine go_aloadN e1_111 rfl rfl ?_
                refine go_aloadN e1_112 rfl rfl ?_
                refine go_len e1_113 rfl (n := 4) rfl ?_
                refine go_iconst e1_114 (x := 1) rfl ?_
                refine go_isub e1_115 ?_
                refine go_iload e1_116 rfl ?_
                refine go_isub e1_118 ?_
                refine go_iaload e1_119 rfl (k := 0) (by decide) rfl ?_
                refine go_istore_9 e1_120 rfl ?_
                refine go_iload e1_122 rfl ?_
                refine go_ifltN e1_124 (tg := 139) (by decide) (by decide) ?_
                refine go_iload e1_127 rfl ?_
                refine go_aloadN e1_129 rfl rfl ?_
                refine go_getfield e1_130 (wd 33 rfl) rfl (j := 0) rfl ?_
                refine go_iload e1_133 rfl ?_
                refine go_iaload e1_135 rfl (k := 2) (by decide) rfl ?_
                refine go_iceqY e1_136 (tg := 169) (by decide) (Int32.toInt_inj.mp (by omega)) ?_
                refine go_lload e1_169 rfl ?_
                refine go_iload e1_171 rfl ?_
                refine go_i2l e1_173 ?_
                refine go_ladd e1_174 ?_
                refine go_lstore_6 e1_175 (Or.inr ⟨_, rfl⟩) rfl ?_
                refine go_iinc_8 e1_177 (z := 1) rfl ?_
                refine go_goto e1_180 (tg := 105) (by decide) ?_
                refine go_iload e1_105 rfl ?_
                refine go_iloadN e1_107 rfl ?_
                refine go_icgeY e1_108 (tg := 183) (by decide) (by decide) ?_
                refine go_aloadN e1_183 rfl rfl ?_
                refine go_getfield e1_184 (wd 35 rfl) rfl (j := 1) rfl ?_
                refine go_iload e1_187 rfl ?_
                refine go_iloadN e1_189 rfl ?_
                refine go_iastore e1_190 rfl (k := 3) (by decide) (Nat.le_of_ble_eq_true rfl) ?_
                simp only [List.replicate_succ, List.replicate_zero, List.set_cons_zero, List.set_cons_succ, List.length_nil, List.length_cons, Nat.zero_add, Nat.reduceAdd, List.nil_append, List.cons_append]
                refine go_aloadN e1_191 rfl rfl ?_
                refine go_getfield e1_192 (wd 38 rfl) rfl (j := 2) rfl ?_
                refine go_iload e1_195 rfl ?_
                refine go_lload e1_197 rfl ?_
                refine go_lastore e1_199 rfl (k := 3) (by decide) (Nat.le_of_ble_eq_true rfl) ?_
                simp only [List.replicate_succ, List.replicate_zero, List.set_cons_zero, List.set_cons_succ, List.length_nil, List.length_cons, Nat.zero_add, Nat.reduceAdd, List.nil_append, List.cons_append]
                refine go_return e1_200 rfl (by decide) (by decide) ?_
                refine ⟨rfl, [s3, s2, s1], [0, 1, 2, 4], _, _, rfl, ?_, Nat.le_of_ble_eq_true rfl, ?_⟩
                · rw [hpm.1]; unfold own_D; simp only [List.length_cons, List.length_nil]; (repeat' split) <;> omega
                · exact ⟨⟨by omega, by show _ = own_cnt s3 r0 r1 r2 r3; rw [hpm.2 s3, show ((1 : Int32) - 0).toInt = 1 by decide]; unfold own_cnt; (repeat' split) <;> omega, by show 0 < own_cnt s3 r0 r1 r2 r3; rw [hpm.2 s3]; unfold own_cnt; (repeat' split) <;> omega, fun w hw => by cases hw; omega⟩, ⟨⟨by omega, by show _ = own_cnt s2 r0 r1 r2 r3; rw [hpm.2 s2, show ((2 : Int32) - 1).toInt = 1 by decide]; unfold own_cnt; (repeat' split) <;> omega, by show 0 < own_cnt s2 r0 r1 r2 r3; rw [hpm.2 s2]; unfold own_cnt; (repeat' split) <;> omega, fun w hw => by cases hw; omega⟩, ⟨⟨by omega, by show _ = own_cnt s1 r0 r1 r2 r3; rw [hpm.2 s1, show ((4 : Int32) - 2).toInt = 2 by decide]; unfold own_cnt; (repeat' split) <;> omega, by show 0 < own_cnt s1 r0 r1 r2 r3; rw [hpm.2 s1]; unfold own_cnt; (repeat' split) <;> omega, fun w hw => by cases hw⟩, trivial⟩⟩⟩
              · intro c56
                have d3 : s0.toInt ≠ s1.toInt := fun z => c56 (Int32.toInt_inj.mp z)
                refine go_iinc_4 e1_59 (z := 1) rfl ?_
                refine go_iinc_3 e1_62 (z := 1) rfl ?_
                refine go_goto e1_65 (tg := 21) (by decide) ?_
                refine go_iloadN e1_21 rfl ?_
                refine go_aloadN e1_22 rfl rfl ?_
                refine go_len e1_23 rfl (n := 4) rfl ?_
                refine go_icgeY e1_24 (tg := 68) (by decide) (by decide) ?_
                refine go_aloadN e1_68 rfl rfl ?_
                refine go_iload e1_69 rfl ?_
                refine go_newarray e1_71 (wd 0 rfl) (k := 4) rfl (vs := [.int 0, .int 0, .int 0, .int 0]) rfl (cap := 4) (by decide) (by decide) (by decide) (by decide) ?_
                simp only [List.replicate_succ, List.replicate_zero, List.set_cons_zero, List.set_cons_succ, List.length_nil, List.length_cons, Nat.zero_add, Nat.reduceAdd, List.nil_append, List.cons_append]
                refine go_putfield e1_73 (wd 33 rfl) (Or.inr ⟨(wd 34 rfl), rfl, rfl⟩) (wd 2 rfl) pf_8 rfl (j := 0) rfl rfl rfl ?_
                simp only [List.replicate_succ, List.replicate_zero, List.set_cons_zero, List.set_cons_succ, List.length_nil, List.length_cons, Nat.zero_add, Nat.reduceAdd, List.nil_append, List.cons_append]
                refine go_aloadN e1_76 rfl rfl ?_
                refine go_iload e1_77 rfl ?_
                refine go_iconst e1_79 (x := 1) rfl ?_
                refine go_iadd e1_80 ?_
                refine go_newarray e1_81 (wd 0 rfl) (k := 5) rfl (vs := [.int 0, .int 0, .int 0, .int 0, .int 0]) rfl (cap := 5) (by decide) (by decide) (by decide) (by decide) ?_
                simp only [List.replicate_succ, List.replicate_zero, List.set_cons_zero, List.set_cons_succ, List.length_nil, List.length_cons, Nat.zero_add, Nat.reduceAdd, List.nil_append, List.cons_append]
                refine go_putfield e1_83 (wd 35 rfl) (Or.inr ⟨(wd 36 rfl), rfl, rfl⟩) (wd 2 rfl) pf_8 rfl (j := 1) rfl rfl rfl ?_
                simp only [List.replicate_succ, List.replicate_zero, List.set_cons_zero, List.set_cons_succ, List.length_nil, List.length_cons, Nat.zero_add, Nat.reduceAdd, List.nil_append, List.cons_append]
                refine go_aloadN e1_86 rfl rfl ?_
                refine go_iload e1_87 rfl ?_
                refine go_iconst e1_89 (x := 1) rfl ?_
                refine go_iadd e1_90 ?_
                refine go_newarray e1_91 (wd 37 rfl) (k := 5) rfl (vs := [.long 0, .long 0, .long 0, .long 0, .long 0]) rfl (cap := 5) (by decide) (by decide) (by decide) (by decide) ?_
                simp only [List.replicate_succ, List.replicate_zero, List.set_cons_zero, List.set_cons_succ, List.length_nil, List.length_cons, Nat.zero_add, Nat.reduceAdd, List.nil_append, List.cons_append]
                refine go_putfield e1_93 (wd 38 rfl) (Or.inr ⟨(wd 39 rfl), rfl, rfl⟩) (wd 2 rfl) pf_9 rfl (j := 2) rfl rfl rfl ?_
                simp only [List.replicate_succ, List.replicate_zero, List.set_cons_zero, List.set_cons_succ, List.length_nil, List.length_cons, Nat.zero_add, Nat.reduceAdd, List.nil_append, List.cons_append]
                refine go_iconst e1_96 (x := (-1)) rfl ?_
                refine go_istore_5 e1_97 rfl ?_
                refine go_lconst e1_99 (x := 0) rfl ?_
                refine go_lstore_6 e1_100 (Or.inl rfl) rfl ?_
                refine go_iconst e1_102 (x := 0) rfl ?_
                refine go_istore_8 e1_103 rfl ?_
                refine go_iload e1_105 rfl ?_
                refine go_iloadN e1_107 rfl ?_
                refine go_icgeN e1_108 (tg := 183) (by decide) (by decide) ?_
                refine go_aloadN e1_111 rfl rfl ?_
                refine go_aloadN e1_112 rfl rfl ?_
                refine go_len e1_113 rfl (n := 4) rfl ?_
                refine go_iconst e1_114 (x := 1) rfl ?_
                refine go_isub e1_115 ?_
                refine go_iload e1_116 rfl ?_
                refine go_isub e1_118 ?_
                refine go_iaload e1_119 rfl (k := 3) (by decide) rfl ?_
                refine go_istore_9 e1_120 rfl ?_
                refine go_iload e1_122 rfl ?_
                refine go_ifltY e1_124 (tg := 139) (by decide) (by decide) ?_
                refine go_iinc_5 e1_139 (z := 1) rfl ?_
                refine go_aloadN e1_142 rfl rfl ?_
                refine go_getfield e1_143 (wd 33 rfl) rfl (j := 0) rfl ?_
                refine go_iload e1_146 rfl ?_
                refine go_iload e1_148 rfl ?_
                refine go_iastore e1_150 rfl (k := 0) (by decide) (Nat.le_of_ble_eq_true rfl) ?_
                simp only [List.replicate_succ, List.replicate_zero, List.set_cons_zero, List.set_cons_succ, List.length_nil, List.length_cons, Nat.zero_add, Nat.reduceAdd, List.nil_append, List.cons_append]
                refine go_aloadN e1_151 rfl rfl ?_
                refine go_getfield e1_152 (wd 35 rfl) rfl (j := 1) rfl ?_
                refine go_iload e1_155 rfl ?_
                refine go_iload e1_157 rfl ?_
                refine go_iastore e1_159 rfl (k := 0) (by decide) (Nat.le_of_ble_eq_true rfl) ?_
                simp only [List.replicate_succ, List.replicate_zero, List.set_cons_zero, List.set_cons_succ, List.length_nil, List.length_cons, Nat.zero_add, Nat.reduceAdd, List.nil_append, List.cons_append]
                refine go_aloadN e1_160 rfl rfl ?_
                refine go_getfield e1_161 (wd 38 rfl) rfl (j := 2) rfl ?_
                refine go_iload e1_164 rfl ?_
                refine go_lload e1_166 rfl ?_
                refine go_lastore e1_168 rfl (k := 0) (by decide) (Nat.le_of_ble_eq_true rfl) ?_
                simp only [List.replicate_succ, List.replicate_zero, List.set_cons_zero, List.set_cons_succ, List.length_nil, List.length_cons, Nat.zero_add, Nat.reduceAdd, List.nil_append, List.cons_append]
                refine go_lload e1_169 rfl ?_
                refine go_iload e1_171 rfl ?_
                refine go_i2l e1_173 ?_
                refine go_ladd e1_174 ?_
                refine go_lstore_6 e1_175 (Or.inr ⟨_, rfl⟩) rfl ?_
                refine go_iinc_8 e1_177 (z := 1) rfl ?_
                refine go_goto e1_180 (tg := 105) (by decide) ?_
                refine go_iload e1_105 rfl ?_
                refine go_iloadN e1_107 rfl ?_
                refine go_icgeN e1_108 (tg := 183) (by decide) (by decide) ?_
                refine go_aloadN e1_111 rfl rfl ?_
                refine go_aloadN e1_112 rfl rfl ?_
                refine go_len e1_113 rfl (n := 4) rfl ?_
                refine go_iconst e1_114 (x := 1) rfl ?_
                refine go_isub e1_115 ?_
                refine go_iload e1_116 rfl ?_
                refine go_isub e1_118 ?_
                refine go_iaload e1_119 rfl (k := 2) (by decide) rfl ?_
                refine go_istore_9 e1_120 rfl ?_
                refine go_iload e1_122 rfl ?_
                refine go_ifltN e1_124 (tg := 139) (by decide) (by decide) ?_
                refine go_iload e1_127 rfl ?_
                refine go_aloadN e1_129 rfl rfl ?_
                refine go_getfield e1_130 (wd 33 rfl) rfl (j := 0) rfl ?_
                refine go_iload e1_133 rfl ?_
                refine go_iaload e1_135 rfl (k := 0) (by decide) rfl ?_
                refine go_iceqN e1_136 (tg := 169) (by decide) (fun h => by have := congrArg Int32.toInt h; omega) ?_
                refine go_iinc_5 e1_139 (z := 1) rfl ?_
                refine go_aloadN e1_142 rfl rfl ?_
                refine go_getfield e1_143 (wd 33 rfl) rfl (j := 0) rfl ?_
                refine go_iload e1_146 rfl ?_
                refine go_iload e1_148 rfl ?_
                refine go_iastore e1_150 rfl (k := 1) (by decide) (Nat.le_of_ble_eq_true rfl) ?_
                simp only [List.replicate_succ, List.replicate_zero, List.set_cons_zero, List.set_cons_succ, List.length_nil, List.length_cons, Nat.zero_add, Nat.reduceAdd, List.nil_append, List.cons_append]
                refine go_aloadN e1_151 rfl rfl ?_
                refine go_getfield e1_152 (wd 35 rfl) rfl (j := 1) rfl ?_
                refine go_iload e1_155 rfl ?_
                refine go_iload e1_157 rfl ?_
                refine go_iastore e1_159 rfl (k := 1) (by decide) (Nat.le_of_ble_eq_true rfl) ?_
                simp only [List.replicate_succ, List.replicate_zero, List.set_cons_zero, List.set_cons_succ, List.length_nil, List.length_cons, Nat.zero_add, Nat.reduceAdd, List.nil_append, List.cons_append]
                refine go_aloadN e1_160 rfl rfl ?_
                refine go_getfield e1_161 (wd 38 rfl) rfl (j := 2) rfl ?_
                refine go_iload e1_164 rfl ?_
                refine go_lload e1_166 rfl ?_
                refine go_lastore e1_168 rfl (k := 1) (by decide) (Nat.le_of_ble_eq_true rfl) ?_
                simp only [List.replicate_succ, List.replicate_zero, List.set_cons_zero, List.set_cons_succ, List.length_nil, List.length_cons, Nat.zero_add, Nat.reduceAdd, List.nil_append, List.cons_append]
                refine go_lload e1_169 rfl ?_
                refine go_iload e1_171 rfl ?_
                refine go_i2l e1_173 ?_
                refine go_ladd e1_174 ?_
                refine go_lstore_6 e1_175 (Or.inr ⟨_, rfl⟩) rfl ?_
                refine go_iinc_8 e1_177 (z := 1) rfl ?_
                refine go_goto e1_180 (tg := 105) (by decide) ?_
                refine go_iload e1_105 rfl ?_
                refine go_iloadN e1_107 rfl ?_
                refine go_icgeN e1_108 (tg := 183) (by decide) (by decide) ?_
                refine go_aloadN e1_111 rfl rfl ?_
                refine go_aloadN e1_112 rfl rfl ?_
                refine go_len e1_113 rfl (n := 4) rfl ?_
                refine go_iconst e1_114 (x := 1) rfl ?_
                refine go_isub e1_115 ?_
                refine go_iload e1_116 rfl ?_
                refine go_isub e1_118 ?_
                refine go_iaload e1_119 rfl (k := 1) (by decide) rfl ?_
                refine go_istore_9 e1_120 rfl ?_
                refine go_iload e1_122 rfl ?_
                refine go_ifltN e1_124 (tg := 139) (by decide) (by decide) ?_
                refine go_iload e1_127 rfl ?_
                refine go_aloadN e1_129 rfl rfl ?_
                refine go_getfield e1_130 (wd 33 rfl) rfl (j := 0) rfl ?_
                refine go_iload e1_133 rfl ?_
                refine go_iaload e1_135 rfl (k := 1) (by decide) rfl ?_
                refine go_iceqN e1_136 (tg := 169) (by decide) (fun h => by have := congrArg Int32.toInt h; omega) ?_
                refine go_iinc_5 e1_139 (z := 1) rfl ?_
                refine go_aloadN e1_142 rfl rfl ?_
                refine go_getfield e1_143 (wd 33 rfl) rfl (j := 0) rfl ?_
                refine go_iload e1_146 rfl ?_
                refine go_iload e1_148 rfl ?_
                refine go_iastore e1_150 rfl (k := 2) (by decide) (Nat.le_of_ble_eq_true rfl) ?_
                simp only [List.replicate_succ, List.replicate_zero, List.set_cons_zero, List.set_cons_succ, List.length_nil, List.length_cons, Nat.zero_add, Nat.reduceAdd, List.nil_append, List.cons_append]
                refine go_aloadN e1_151 rfl rfl ?_
                refine go_getfield e1_152 (wd 35 rfl) rfl (j := 1) rfl ?_
                refine go_iload e1_155 rfl ?_
                refine go_iload e1_157 rfl ?_
                refine go_iastore e1_159 rfl (k := 2) (by decide) (Nat.le_of_ble_eq_true rfl) ?_
                simp only [List.replicate_succ, List.replicate_zero, List.set_cons_zero, List.set_cons_succ, List.length_nil, List.length_cons, Nat.zero_add, Nat.reduceAdd, List.nil_append, List.cons_append]
                refine go_aloadN e1_160 rfl rfl ?_
                refine go_getfield e1_161 (wd 38 rfl) rfl (j := 2) rfl ?_
                refine go_iload e1_164 rfl ?_
                refine go_lload e1_166 rfl ?_
                refine go_lastore e1_168 rfl (k := 2) (by decide) (Nat.le_of_ble_eq_true rfl) ?_
                simp only [List.replicate_succ, List.replicate_zero, List.set_cons_zero, List.set_cons_succ, List.length_nil, List.length_cons, Nat.zero_add, Nat.reduceAdd, List.nil_append, List.cons_append]
                refine go_lload e1_169 rfl ?_
                refine go_iload e1_171 rfl ?_
                refine go_i2l e1_173 ?_
                refine go_ladd e1_174 ?_
                refine go_lstore_6 e1_175 (Or.inr ⟨_, rfl⟩) rfl ?_
                refine go_iinc_8 e1_177 (z := 1) rfl ?_
                refine go_goto e1_180 (tg := 105) (by decide) ?_
                refine go_iload e1_105 rfl ?_
                refine go_iloadN e1_107 rfl ?_
                refine go_icgeN e1_108 (tg := 183) (by decide) (by decide) ?_
                refine go_aloadN e1_111 rfl rfl ?_
                refine go_aloadN e1_112 rfl rfl ?_
                refine go_len e1_113 rfl (n := 4) rfl ?_
                refine go_iconst e1_114 (x := 1) rfl ?_
                refine go_isub e1_115 ?_
                refine go_iload e1_116 rfl ?_
                refine go_isub e1_118 ?_
                refine go_iaload e1_119 rfl (k := 0) (by decide) rfl ?_
                refine go_istore_9 e1_120 rfl ?_
                refine go_iload e1_122 rfl ?_
                refine go_ifltN e1_124 (tg := 139) (by decide) (by decide) ?_
                refine go_iload e1_127 rfl ?_
                refine go_aloadN e1_129 rfl rfl ?_
                refine go_getfield e1_130 (wd 33 rfl) rfl (j := 0) rfl ?_
                refine go_iload e1_133 rfl ?_
                refine go_iaload e1_135 rfl (k := 2) (by decide) rfl ?_
                refine go_iceqN e1_136 (tg := 169) (by decide) (fun h => by have := congrArg Int32.toInt h; omega) ?_
                refine go_iinc_5 e1_139 (z := 1) rfl ?_
                refine go_aloadN e1_142 rfl rfl ?_
                refine go_getfield e1_143 (wd 33 rfl) rfl (j := 0) rfl ?_
                refine go_iload e1_146 rfl ?_
                refine go_iload e1_148 rfl ?_
                refine go_iastore e1_150 rfl (k := 3) (by decide) (Nat.le_of_ble_eq_true rfl) ?_
                simp only [List.replicate_succ, List.replicate_zero, List.set_cons_zero, List.set_cons_succ, List.length_nil, List.length_cons, Nat.zero_add, Nat.reduceAdd, List.nil_append, List.cons_append]
                refine go_aloadN e1_151 rfl rfl ?_
                refine go_getfield e1_152 (wd 35 rfl) rfl (j := 1) rfl ?_
                refine go_iload e1_155 rfl ?_
                refine go_iload e1_157 rfl ?_
                refine go_iastore e1_159 rfl (k := 3) (by decide) (Nat.le_of_ble_eq_true rfl) ?_
                simp only [List.replicate_succ, List.replicate_zero, List.set_cons_zero, List.set_cons_succ, List.length_nil, List.length_cons, Nat.zero_add, Nat.reduceAdd, List.nil_append, List.cons_append]
                refine go_aloadN e1_160 rfl rfl ?_
                refine go_getfield e1_161 (wd 38 rfl) rfl (j := 2) rfl ?_
                refine go_iload e1_164 rfl ?_
                refine go_lload e1_166 rfl ?_
                refine go_lastore e1_168 rfl (k := 3) (by decide) (Nat.le_of_ble_eq_true rfl) ?_
                simp only [List.replicate_succ, List.replicate_zero, List.set_cons_zero, List.set_cons_succ, List.length_nil, List.length_cons, Nat.zero_add, Nat.reduceAdd, List.nil_append, List.cons_append]
                refine go_lload e1_169 rfl ?_
                refine go_iload e1_171 rfl ?_
                refine go_i2l e1_173 ?_
                refine go_ladd e1_174 ?_
                refine go_lstore_6 e1_175 (Or.inr ⟨_, rfl⟩) rfl ?_
                refine go_iinc_8 e1_177 (z := 1) rfl ?_
                refine go_goto e1_180 (tg := 105) (by decide) ?_
                refine go_iload e1_105 rfl ?_
                refine go_iloadN e1_107 rfl ?_
                refine go_icgeY e1_108 (tg := 183) (by decide) (by decide) ?_
                refine go_aloadN e1_183 rfl rfl ?_
                refine go_getfield e1_184 (wd 35 rfl) rfl (j := 1) rfl ?_
                refine go_iload e1_187 rfl ?_
                refine go_iloadN e1_189 rfl ?_
                refine go_iastore e1_190 rfl (k := 4) (by decide) (Nat.le_of_ble_eq_true rfl) ?_
                simp only [List.replicate_succ, List.replicate_zero, List.set_cons_zero, List.set_cons_succ, List.length_nil, List.length_cons, Nat.zero_add, Nat.reduceAdd, List.nil_append, List.cons_append]
                refine go_aloadN e1_191 rfl rfl ?_
                refine go_getfield e1_192 (wd 38 rfl) rfl (j := 2) rfl ?_
                refine go_iload e1_195 rfl ?_
                refine go_lload e1_197 rfl ?_
                refine go_lastore e1_199 rfl (k := 4) (by decide) (Nat.le_of_ble_eq_true rfl) ?_
                simp only [List.replicate_succ, List.replicate_zero, List.set_cons_zero, List.set_cons_succ, List.length_nil, List.length_cons, Nat.zero_add, Nat.reduceAdd, List.nil_append, List.cons_append]
                refine go_return e1_200 rfl (by decide) (by decide) ?_
                refine ⟨rfl, [s3, s2, s1, s0], [0, 1, 2, 3, 4], _, _, rfl, ?_, Nat.le_of_ble_eq_true rfl, ?_⟩
                · rw [hpm.1]; unfold own_D; simp only [List.length_cons, List.length_nil]; (repeat' split) <;> omega
                · exact ⟨⟨by omega, by show _ = own_cnt s3 r0 r1 r2 r3; rw [hpm.2 s3, show ((1 : Int32) - 0).toInt = 1 by decide]; unfold own_cnt; (repeat' split) <;> omega, by show 0 < own_cnt s3 r0 r1 r2 r3; rw [hpm.2 s3]; unfold own_cnt; (repeat' split) <;> omega, fun w hw => by cases hw; omega⟩, ⟨⟨by omega, by show _ = own_cnt s2 r0 r1 r2 r3; rw [hpm.2 s2, show ((2 : Int32) - 1).toInt = 1 by decide]; unfold own_cnt; (repeat' split) <;> omega, by show 0 < own_cnt s2 r0 r1 r2 r3; rw [hpm.2 s2]; unfold own_cnt; (repeat' split) <;> omega, fun w hw => by cases hw; omega⟩, ⟨⟨by omega, by show _ = own_cnt s1 r0 r1 r2 r3; rw [hpm.2 s1, show ((3 : Int32) - 2).toInt = 1 by decide]; unfold own_cnt; (repeat' split) <;> omega, by show 0 < own_cnt s1 r0 r1 r2 r3; rw [hpm.2 s1]; unfold own_cnt; (repeat' split) <;> omega, fun w hw => by cases hw; omega⟩, ⟨⟨by omega, by show _ = own_cnt s0 r0 r1 r2 r3; rw [hpm.2 s0, show ((4 : Int32) - 3).toInt = 1 by decide]; unfold own_cnt; (repeat' split) <;> omega, by show 0 < own_cnt s0 r0 r1 r2 r3; rw [hpm.2 s0]; unfold own_cnt; (repeat' split) <;> omega, fun w hw => by cases hw⟩, trivial⟩⟩⟩⟩
set_option maxRecDepth 65536 in
set_option maxHeartbeats 4000000 in
theorem c_dist {l : Launch} {Z : State} {a0 : Array Value} {b : Nat} (hw : ∀ d ∈ tables_1, d.before a0 Z = true) {H : List GCell} {q a c0 : Nat} {h0 : Value} {rs : List Value} (hq : H[q]? = some (So (.ref a) (.ref c0) h0)) {nn : Int32} (ha : H[a]? = some (ar .int rs)) (hn : rs.length.toInt32 = nn) :
    Met l Z a0 b (⟨"com/example/outliers_into_crowds/outliersintocrowds/schedule/Splits", "distinct", "()I"⟩ : MethodName) prog_37_method_5_code 1 (some .int) ({ frames := 0, cells := 0, slots := 0, locals := 0 } : Room) [.ref q] H (fun v H' => ∃ u, v = some u ∧ (u = .int nn ∧ H' = H)) := by
  refine Met.of_go hw (plainFor_of_name pn_10) (L0 := [.val (.ref q)]) rfl ?_
  intro p e s m args below meth c C
  refine go_aloadN e7_0 rfl rfl ?_
  refine go_getfield e7_1 (wd 33 rfl) hq (j := 0) rfl ?_
  refine go_len e7_4 ha (n := nn) hn ?_
  refine go_ireturn e7_5 rfl (by decide) (by decide) ?_
  exact ⟨_, rfl, rfl, rfl⟩
set_option maxRecDepth 65536 in
set_option maxHeartbeats 4000000 in
theorem c_room {l : Launch} {Z : State} {a0 : Array Value} {b : Nat} (hw : ∀ d ∈ tables_1, d.before a0 Z = true) {H : List GCell} {q a c0 : Nat} {h0 : Value} {rs : List Value} (hq : H[q]? = some (So (.ref a) (.ref c0) h0)) {kk v0 : Int32} {k : Nat} (ha : H[a]? = some (ar .int rs)) (hk : kk.toInt = (k : Int)) (hv : rs[k]? = some (.int v0)) :
    Met l Z a0 b (⟨"com/example/outliers_into_crowds/outliersintocrowds/schedule/Splits", "room", "(I)I"⟩ : MethodName) prog_37_method_6_code 2 (some .int) ({ frames := 0, cells := 0, slots := 0, locals := 0 } : Room) [.ref q, .int kk] H (fun v H' => ∃ u, v = some u ∧ (u = .int v0 ∧ H' = H)) := by
  refine Met.of_go hw (plainFor_of_name pn_10) (L0 := [.val (.ref q), .val (.int kk)]) rfl ?_
  intro p e s m args below meth c C
  refine go_aloadN e8_0 rfl rfl ?_
  refine go_getfield e8_1 (wd 33 rfl) hq (j := 0) rfl ?_
  refine go_iloadN e8_4 rfl ?_
  refine go_iaload e8_5 ha (k := k) hk hv ?_
  refine go_ireturn e8_6 rfl (by decide) (by decide) ?_
  exact ⟨_, rfl, rfl, rfl⟩
set_option maxRecDepth 65536 in
set_option maxHeartbeats 4000000 in
theorem c_slots {l : Launch} {Z : State} {a0 : Array Value} {b : Nat} (hw : ∀ d ∈ tables_1, d.before a0 Z = true) {H : List GCell} {q a c0 : Nat} {h0 : Value} {as1 : List Value} (hq : H[q]? = some (So (.ref a) (.ref c0) h0)) {kk x y : Int32} {k : Nat} (hc : H[c0]? = some (ar .int as1)) (hk : kk.toInt = (k : Int)) (hk4 : k ≤ 100) (hx : as1[k]? = some (.int x)) (hy : as1[k + 1]? = some (.int y)) :
    Met l Z a0 b (⟨"com/example/outliers_into_crowds/outliersintocrowds/schedule/Splits", "slotsWith", "(I)I"⟩ : MethodName) prog_37_method_7_code 2 (some .int) ({ frames := 0, cells := 0, slots := 0, locals := 0 } : Room) [.ref q, .int kk] H (fun v H' => ∃ u, v = some u ∧ (u = .int (y - x) ∧ H' = H)) := by
  refine Met.of_go hw (plainFor_of_name pn_10) (L0 := [.val (.ref q), .val (.int kk)]) rfl ?_
  intro p e s m args below meth c C
  refine go_aloadN e10_0 rfl rfl ?_
  refine go_getfield e10_1 (wd 35 rfl) hq (j := 1) rfl ?_
  refine go_iloadN e10_4 rfl ?_
  refine go_iconst e10_5 (x := 1) rfl ?_
  refine go_iadd e10_6 ?_
  refine go_iaload e10_7 hc (k := k + 1) (own_inc hk (by omega)) hy ?_
  refine go_aloadN e10_8 rfl rfl ?_
  refine go_getfield e10_9 (wd 35 rfl) hq (j := 1) rfl ?_
  refine go_iloadN e10_12 rfl ?_
  refine go_iaload e10_13 hc (k := k) hk hx ?_
  refine go_isub e10_14 ?_
  refine go_ireturn e10_15 rfl (by decide) (by decide) ?_
  exact ⟨_, rfl, rfl, rfl⟩
set_option maxRecDepth 65536 in
set_option maxHeartbeats 4000000 in
theorem c_cnt {l : Launch} {Z : State} {a0 : Array Value} {b : Nat} (hw : ∀ d ∈ tables_1, d.before a0 Z = true) {H : List GCell} {v0 r0 r1 r2 r3 : Int32} :
    Met l Z a0 b (⟨"com/example/outliers_into_crowds/outliersintocrowds/schedule/SplitsSlotsWithPinLaw", "cnt", "(IIIII)I"⟩ : MethodName) method_4_code 5 (some .int) ({ frames := 0, cells := 0, slots := 0, locals := 0 } : Room) [.int v0, .int r0, .int r1, .int r2, .int r3] H (fun v H' => ∃ u, v = some u ∧ (∃ z : Int32, u = .int z ∧ z.toInt = own_cnt v0 r0 r1 r2 r3 ∧ H' = H)) := by
  refine Met.of_go hw (plainFor_of_name pn_11) (L0 := [.val (.int v0), .val (.int r0), .val (.int r1), .val (.int r2), .val (.int r3)]) rfl ?_
  intro p e s m args below meth c C
  refine go_cut (pc' := 10) (P := fun mb => mb.toInt = if r0.toInt = v0.toInt then 1 else 0) ?_ ?_
  · intro K
    refine go_iloadN e11_0 rfl ?_
    refine go_iloadN e11_1 rfl ?_
    refine go_icne e11_2 (tg := 9) (by decide) ?_ ?_
    · intro c2
      refine go_iconst e11_9 (x := 0) rfl ?_
      first | exact K _ (by rw [if_pos (congrArg Int32.toInt c2)]; rfl) | exact K _ (by rw [if_neg (fun z => c2 (Int32.toInt_inj.mp z))]; rfl)
    · intro c2
      refine go_iconst e11_5 (x := 1) rfl ?_
      refine go_goto e11_6 (tg := 10) (by decide) ?_
      first | exact K _ (by rw [if_pos (congrArg Int32.toInt c2)]; rfl) | exact K _ (by rw [if_neg (fun z => c2 (Int32.toInt_inj.mp z))]; rfl)
  · intro t0 ht0
    refine go_cut (pc' := 20) (P := fun mb => mb.toInt = if r1.toInt = v0.toInt then 1 else 0) ?_ ?_
    · intro K
      refine go_iloadN e11_10 rfl ?_
      refine go_iloadN e11_11 rfl ?_
      refine go_icne e11_12 (tg := 19) (by decide) ?_ ?_
      · intro c12
        refine go_iconst e11_19 (x := 0) rfl ?_
        first | exact K _ (by rw [if_pos (congrArg Int32.toInt c12)]; rfl) | exact K _ (by rw [if_neg (fun z => c12 (Int32.toInt_inj.mp z))]; rfl)
      · intro c12
        refine go_iconst e11_15 (x := 1) rfl ?_
        refine go_goto e11_16 (tg := 20) (by decide) ?_
        first | exact K _ (by rw [if_pos (congrArg Int32.toInt c12)]; rfl) | exact K _ (by rw [if_neg (fun z => c12 (Int32.toInt_inj.mp z))]; rfl)
    · intro t1 ht1
      refine go_iadd e11_20 ?_
      refine go_cut (pc' := 31) (P := fun mb => mb.toInt = if r2.toInt = v0.toInt then 1 else 0) ?_ ?_
      · intro K
        refine go_iloadN e11_21 rfl ?_
        refine go_iloadN e11_22 rfl ?_
        refine go_icne e11_23 (tg := 30) (by decide) ?_ ?_
        · intro c23
          refine go_iconst e11_30 (x := 0) rfl ?_
          first | exact K _ (by rw [if_pos (congrArg Int32.toInt c23)]; rfl) | exact K _ (by rw [if_neg (fun z => c23 (Int32.toInt_inj.mp z))]; rfl)
        · intro c23
          refine go_iconst e11_26 (x := 1) rfl ?_
          refine go_goto e11_27 (tg := 31) (by decide) ?_
          first | exact K _ (by rw [if_pos (congrArg Int32.toInt c23)]; rfl) | exact K _ (by rw [if_neg (fun z => c23 (Int32.toInt_inj.mp z))]; rfl)
      · intro t2 ht2
        refine go_iadd e11_31 ?_
        refine go_cut (pc' := 43) (P := fun mb => mb.toInt = if r3.toInt = v0.toInt then 1 else 0) ?_ ?_
        · intro K
          refine go_iload e11_32 rfl ?_
          refine go_iloadN e11_34 rfl ?_
          refine go_icne e11_35 (tg := 42) (by decide) ?_ ?_
          · intro c35
            refine go_iconst e11_42 (x := 0) rfl ?_
            first | exact K _ (by rw [if_pos (congrArg Int32.toInt c35)]; rfl) | exact K _ (by rw [if_neg (fun z => c35 (Int32.toInt_inj.mp z))]; rfl)
          · intro c35
            refine go_iconst e11_38 (x := 1) rfl ?_
            refine go_goto e11_39 (tg := 43) (by decide) ?_
            first | exact K _ (by rw [if_pos (congrArg Int32.toInt c35)]; rfl) | exact K _ (by rw [if_neg (fun z => c35 (Int32.toInt_inj.mp z))]; rfl)
        · intro t3 ht3
          refine go_iadd e11_43 ?_
          refine go_ireturn e11_44 rfl (by decide) (by decide) ?_
          refine ⟨_, rfl, _, rfl, ?_, rfl⟩
          have b0 := own_if01 (r0.toInt = v0.toInt)
          have b1 := own_if01 (r1.toInt = v0.toInt)
          have b2 := own_if01 (r2.toInt = v0.toInt)
          have b3 := own_if01 (r3.toInt = v0.toInt)
          exact own_add (own_add (own_add ht0 ht1 (by omega) (by omega)) ht2 (by omega) (by omega)) ht3 (by omega) (by omega)
set_option maxRecDepth 65536 in
set_option maxHeartbeats 4000000 in
theorem c_chk0 {l : Launch} {Z : State} {a0 : Array Value} {b : Nat} (hw : ∀ d ∈ tables_1, d.before a0 Z = true) {H : List GCell} {q : Nat} {kk nn v0 pv hp r0 r1 r2 r3 : Int32} (h : nn.toInt ≤ kk.toInt) :
    Met l Z a0 b (⟨"com/example/outliers_into_crowds/outliersintocrowds/schedule/SplitsSlotsWithPinLaw", "check", "(Lcom/example/outliers_into_crowds/outliersintocrowds/schedule/Splits;IIIIZIIII)Z"⟩ : MethodName) method_3_code 10 (some .boolean) ({ frames := 1, cells := 0, slots := 0, locals := 17 } : Room) [.ref q, .int kk, .int nn, .int v0, .int pv, .int hp, .int r0, .int r1, .int r2, .int r3] H (fun v H' => ∃ u, v = some u ∧ (u = .int 1 ∧ H' = H)) := by
  refine Met.of_go hw (plainFor_of_name pn_11) (L0 := [.val (.ref q), .val (.int kk), .val (.int nn), .val (.int v0), .val (.int pv), .val (.int hp), .val (.int r0), .val (.int r1), .val (.int r2), .val (.int r3)]) rfl ?_
  intro p e s m args below meth c C
  refine go_iloadN e9_0 rfl ?_
  refine go_iloadN e9_1 rfl ?_
  refine go_icltN e9_2 (tg := 7) (by decide) h ?_
  refine go_iconst e9_5 (x := 1) rfl ?_
  refine go_zreturn e9_6 rfl (by decide) (by decide) (by decide) ?_
  exact ⟨_, rfl, rfl, rfl⟩
set_option maxRecDepth 65536 in
set_option maxHeartbeats 4000000 in
theorem c_chk1 {l : Launch} {Z : State} {a0 : Array Value} {b : Nat} (hw : ∀ d ∈ tables_1, d.before a0 Z = true) {H : List GCell} {q a c0 : Nat} {h0 : Value} {as1 : List Value} (hq : H[q]? = some (So (.ref a) (.ref c0) h0)) {kk x y : Int32} {k : Nat} (hc : H[c0]? = some (ar .int as1)) (hk : kk.toInt = (k : Int)) (hk4 : k ≤ 100) (hx : as1[k]? = some (.int x)) (hy : as1[k + 1]? = some (.int y)) {nn v0 pv hp r0 r1 r2 r3 : Int32} (h : kk.toInt < nn.toInt) (hv : 0 < v0.toInt) (hm : v0 = r0 ∨ v0 = r1 ∨ v0 = r2 ∨ v0 = r3) (hpv : ¬ hp = 0 → v0.toInt < pv.toInt) (hcn : (y - x).toInt = own_cnt v0 r0 r1 r2 r3) :
    Met l Z a0 b (⟨"com/example/outliers_into_crowds/outliersintocrowds/schedule/SplitsSlotsWithPinLaw", "check", "(Lcom/example/outliers_into_crowds/outliersintocrowds/schedule/Splits;IIIIZIIII)Z"⟩ : MethodName) method_3_code 10 (some .boolean) ({ frames := 1, cells := 0, slots := 0, locals := 17 } : Room) [.ref q, .int kk, .int nn, .int v0, .int pv, .int hp, .int r0, .int r1, .int r2, .int r3] H (fun v H' => ∃ u, v = some u ∧ (u = .int 1 ∧ H' = H)) := by
  refine Met.of_go hw (plainFor_of_name pn_11) (L0 := [.val (.ref q), .val (.int kk), .val (.int nn), .val (.int v0), .val (.int pv), .val (.int hp), .val (.int r0), .val (.int r1), .val (.int r2), .val (.int r3)]) rfl ?_
  intro p e s m args below meth c C
  refine go_iloadN e9_0 rfl ?_
  refine go_iloadN e9_1 rfl ?_
  refine go_icltY e9_2 (tg := 7) (by decide) h ?_
  refine go_iloadN e9_7 rfl ?_
  refine go_ifgtY e9_8 (tg := 13) (by decide) hv ?_
  refine go_iloadN e9_13 rfl ?_
  refine go_iload e9_14 rfl ?_
  refine go_iceq e9_16 (tg := 39) (by decide) ?_ ?_
  · intro c16
    refine go_iload e9_39 rfl ?_
    refine go_ifeq e9_41 (tg := 52) (by decide) ?_ ?_
    · intro c41
      refine go_aloadN e9_52 rfl rfl ?_
      refine go_iloadN e9_53 rfl ?_
      refine go_virtual_1 e9_54 (wd 55 rfl) (wd 56 rfl) (wd 58 rfl) (wd 57 rfl) (wd 59 rfl) (wd 3 rfl) hy_12 pd_13 rfl (c_slots hw hq hc hk hk4 hx hy) hq rfl 0 rfl (by decide) (by decide) (by decide) (by decide) ?_
      rintro _ _ ⟨rfl, rfl⟩
      refine go_iloadN e9_57 rfl ?_
      refine go_iload e9_58 rfl ?_
      refine go_iload e9_60 rfl ?_
      refine go_iload e9_62 rfl ?_
      refine go_iload e9_64 rfl ?_
      refine go_static_5 e9_66 (wd 60 rfl) (wd 61 rfl) (wd 62 rfl) (wd 53 rfl) hy_14 pd_15 rfl (c_cnt hw) rfl 1 rfl (by decide) (by decide) (by decide) (by decide) ?_
      rintro _ _ ⟨z, rfl, hz, rfl⟩
      refine go_icneN e9_69 (tg := 76) (by decide) (Int32.toInt_inj.mp (by rw [hz, hcn])) ?_
      refine go_iconst e9_72 (x := 1) rfl ?_
      refine go_goto e9_73 (tg := 77) (by decide) ?_
      refine go_zreturn e9_77 rfl rfl (by decide) (by decide) ?_
      exact ⟨_, rfl, rfl, rfl⟩
    · intro c41
      refine go_iload e9_44 rfl ?_
      refine go_iloadN e9_46 rfl ?_
      refine go_icgtY e9_47 (tg := 52) (by decide) (hpv c41) ?_
      refine go_aloadN e9_52 rfl rfl ?_
      refine go_iloadN e9_53 rfl ?_
      refine go_virtual_1 e9_54 (wd 55 rfl) (wd 56 rfl) (wd 58 rfl) (wd 57 rfl) (wd 59 rfl) (wd 3 rfl) hy_12 pd_13 rfl (c_slots hw hq hc hk hk4 hx hy) hq rfl 0 rfl (by decide) (by decide) (by decide) (by decide) ?_
      rintro _ _ ⟨rfl, rfl⟩
      refine go_iloadN e9_57 rfl ?_
      refine go_iload e9_58 rfl ?_
      refine go_iload e9_60 rfl ?_
      refine go_iload e9_62 rfl ?_
      refine go_iload e9_64 rfl ?_
      refine go_static_5 e9_66 (wd 60 rfl) (wd 61 rfl) (wd 62 rfl) (wd 53 rfl) hy_14 pd_15 rfl (c_cnt hw) rfl 1 rfl (by decide) (by decide) (by decide) (by decide) ?_
      rintro _ _ ⟨z, rfl, hz, rfl⟩
      refine go_icneN e9_69 (tg := 76) (by decide) (Int32.toInt_inj.mp (by rw [hz, hcn])) ?_
      refine go_iconst e9_72 (x := 1) rfl ?_
      refine go_goto e9_73 (tg := 77) (by decide) ?_
      refine go_zreturn e9_77 rfl rfl (by decide) (by decide) ?_
      exact ⟨_, rfl, rfl, rfl⟩
  · intro c16
    refine go_iloadN e9_19 rfl ?_
    refine go_iload e9_20 rfl ?_
    refine go_iceq e9_22 (tg := 39) (by decide) ?_ ?_
    · intro c22
      refine go_iload e9_39 rfl ?_
      refine go_ifeq e9_41 (tg := 52) (by decide) ?_ ?_
      · intro c41
        refine go_aloadN e9_52 rfl rfl ?_
        refine go_iloadN e9_53 rfl ?_
        refine go_virtual_1 e9_54 (wd 55 rfl) (wd 56 rfl) (wd 58 rfl) (wd 57 rfl) (wd 59 rfl) (wd 3 rfl) hy_12 pd_13 rfl (c_slots hw hq hc hk hk4 hx hy) hq rfl 0 rfl (by decide) (by decide) (by decide) (by decide) ?_
        rintro _ _ ⟨rfl, rfl⟩
        refine go_iloadN e9_57 rfl ?_
        refine go_iload e9_58 rfl ?_
        refine go_iload e9_60 rfl ?_
        refine go_iload e9_62 rfl ?_
        refine go_iload e9_64 rfl ?_
        refine go_static_5 e9_66 (wd 60 rfl) (wd 61 rfl) (wd 62 rfl) (wd 53 rfl) hy_14 pd_15 rfl (c_cnt hw) rfl 1 rfl (by decide) (by decide) (by decide) (by decide) ?_
        rintro _ _ ⟨z, rfl, hz, rfl⟩
        refine go_icneN e9_69 (tg := 76) (by decide) (Int32.toInt_inj.mp (by rw [hz, hcn])) ?_
        refine go_iconst e9_72 (x := 1) rfl ?_
        refine go_goto e9_73 (tg := 77) (by decide) ?_
        refine go_zreturn e9_77 rfl rfl (by decide) (by decide) ?_
        exact ⟨_, rfl, rfl, rfl⟩
      · intro c41
        refine go_iload e9_44 rfl ?_
        refine go_iloadN e9_46 rfl ?_
        refine go_icgtY e9_47 (tg := 52) (by decide) (hpv c41) ?_
        refine go_aloadN e9_52 rfl rfl ?_
        refine go_iloadN e9_53 rfl ?_
        refine go_virtual_1 e9_54 (wd 55 rfl) (wd 56 rfl) (wd 58 rfl) (wd 57 rfl) (wd 59 rfl) (wd 3 rfl) hy_12 pd_13 rfl (c_slots hw hq hc hk hk4 hx hy) hq rfl 0 rfl (by decide) (by decide) (by decide) (by decide) ?_
        rintro _ _ ⟨rfl, rfl⟩
        refine go_iloadN e9_57 rfl ?_
        refine go_iload e9_58 rfl ?_
        refine go_iload e9_60 rfl ?_
        refine go_iload e9_62 rfl ?_
        refine go_iload e9_64 rfl ?_
        refine go_static_5 e9_66 (wd 60 rfl) (wd 61 rfl) (wd 62 rfl) (wd 53 rfl) hy_14 pd_15 rfl (c_cnt hw) rfl 1 rfl (by decide) (by decide) (by decide) (by decide) ?_
        rintro _ _ ⟨z, rfl, hz, rfl⟩
        refine go_icneN e9_69 (tg := 76) (by decide) (Int32.toInt_inj.mp (by rw [hz, hcn])) ?_
        refine go_iconst e9_72 (x := 1) rfl ?_
        refine go_goto e9_73 (tg := 77) (by decide) ?_
        refine go_zreturn e9_77 rfl rfl (by decide) (by decide) ?_
        exact ⟨_, rfl, rfl, rfl⟩
    · intro c22
      refine go_iloadN e9_25 rfl ?_
      refine go_iload e9_26 rfl ?_
      refine go_iceq e9_28 (tg := 39) (by decide) ?_ ?_
      · intro c28
        refine go_iload e9_39 rfl ?_
        refine go_ifeq e9_41 (tg := 52) (by decide) ?_ ?_
        · intro c41
          refine go_aloadN e9_52 rfl rfl ?_
          refine go_iloadN e9_53 rfl ?_
          refine go_virtual_1 e9_54 (wd 55 rfl) (wd 56 rfl) (wd 58 rfl) (wd 57 rfl) (wd 59 rfl) (wd 3 rfl) hy_12 pd_13 rfl (c_slots hw hq hc hk hk4 hx hy) hq rfl 0 rfl (by decide) (by decide) (by decide) (by decide) ?_
          rintro _ _ ⟨rfl, rfl⟩
          refine go_iloadN e9_57 rfl ?_
          refine go_iload e9_58 rfl ?_
          refine go_iload e9_60 rfl ?_
          refine go_iload e9_62 rfl ?_
          refine go_iload e9_64 rfl ?_
          refine go_static_5 e9_66 (wd 60 rfl) (wd 61 rfl) (wd 62 rfl) (wd 53 rfl) hy_14 pd_15 rfl (c_cnt hw) rfl 1 rfl (by decide) (by decide) (by decide) (by decide) ?_
          rintro _ _ ⟨z, rfl, hz, rfl⟩
          refine go_icneN e9_69 (tg := 76) (by decide) (Int32.toInt_inj.mp (by rw [hz, hcn])) ?_
          refine go_iconst e9_72 (x := 1) rfl ?_
          refine go_goto e9_73 (tg := 77) (by decide) ?_
          refine go_zreturn e9_77 rfl rfl (by decide) (by decide) ?_
          exact ⟨_, rfl, rfl, rfl⟩
        · intro c41
          refine go_iload e9_44 rfl ?_
          refine go_iloadN e9_46 rfl ?_
          refine go_icgtY e9_47 (tg := 52) (by decide) (hpv c41) ?_
          refine go_aloadN e9_52 rfl rfl ?_
          refine go_iloadN e9_53 rfl ?_
          refine go_virtual_1 e9_54 (wd 55 rfl) (wd 56 rfl) (wd 58 rfl) (wd 57 rfl) (wd 59 rfl) (wd 3 rfl) hy_12 pd_13 rfl (c_slots hw hq hc hk hk4 hx hy) hq rfl 0 rfl (by decide) (by decide) (by decide) (by decide) ?_
          rintro _ _ ⟨rfl, rfl⟩
          refine go_iloadN e9_57 rfl ?_
          refine go_iload e9_58 rfl ?_
          refine go_iload e9_60 rfl ?_
          refine go_iload e9_62 rfl ?_
          refine go_iload e9_64 rfl ?_
          refine go_static_5 e9_66 (wd 60 rfl) (wd 61 rfl) (wd 62 rfl) (wd 53 rfl) hy_14 pd_15 rfl (c_cnt hw) rfl 1 rfl (by decide) (by decide) (by decide) (by decide) ?_
          rintro _ _ ⟨z, rfl, hz, rfl⟩
          refine go_icneN e9_69 (tg := 76) (by decide) (Int32.toInt_inj.mp (by rw [hz, hcn])) ?_
          refine go_iconst e9_72 (x := 1) rfl ?_
          refine go_goto e9_73 (tg := 77) (by decide) ?_
          refine go_zreturn e9_77 rfl rfl (by decide) (by decide) ?_
          exact ⟨_, rfl, rfl, rfl⟩
      · intro c28
        refine go_iloadN e9_31 rfl ?_
        refine go_iload e9_32 rfl ?_
        refine go_iceqY e9_34 (tg := 39) (by decide) (((hm.resolve_left c16).resolve_left c22).resolve_left c28) ?_
        refine go_iload e9_39 rfl ?_
        refine go_ifeq e9_41 (tg := 52) (by decide) ?_ ?_
        · intro c41
          refine go_aloadN e9_52 rfl rfl ?_
          refine go_iloadN e9_53 rfl ?_
          refine go_virtual_1 e9_54 (wd 55 rfl) (wd 56 rfl) (wd 58 rfl) (wd 57 rfl) (wd 59 rfl) (wd 3 rfl) hy_12 pd_13 rfl (c_slots hw hq hc hk hk4 hx hy) hq rfl 0 rfl (by decide) (by decide) (by decide) (by decide) ?_
          rintro _ _ ⟨rfl, rfl⟩
          refine go_iloadN e9_57 rfl ?_
          refine go_iload e9_58 rfl ?_
          refine go_iload e9_60 rfl ?_
          refine go_iload e9_62 rfl ?_
          refine go_iload e9_64 rfl ?_
          refine go_static_5 e9_66 (wd 60 rfl) (wd 61 rfl) (wd 62 rfl) (wd 53 rfl) hy_14 pd_15 rfl (c_cnt hw) rfl 1 rfl (by decide) (by decide) (by decide) (by decide) ?_
          rintro _ _ ⟨z, rfl, hz, rfl⟩
          refine go_icneN e9_69 (tg := 76) (by decide) (Int32.toInt_inj.mp (by rw [hz, hcn])) ?_
          refine go_iconst e9_72 (x := 1) rfl ?_
          refine go_goto e9_73 (tg := 77) (by decide) ?_
          refine go_zreturn e9_77 rfl rfl (by decide) (by decide) ?_
          exact ⟨_, rfl, rfl, rfl⟩
        · intro c41
          refine go_iload e9_44 rfl ?_
          refine go_iloadN e9_46 rfl ?_
          refine go_icgtY e9_47 (tg := 52) (by decide) (hpv c41) ?_
          refine go_aloadN e9_52 rfl rfl ?_
          refine go_iloadN e9_53 rfl ?_
          refine go_virtual_1 e9_54 (wd 55 rfl) (wd 56 rfl) (wd 58 rfl) (wd 57 rfl) (wd 59 rfl) (wd 3 rfl) hy_12 pd_13 rfl (c_slots hw hq hc hk hk4 hx hy) hq rfl 0 rfl (by decide) (by decide) (by decide) (by decide) ?_
          rintro _ _ ⟨rfl, rfl⟩
          refine go_iloadN e9_57 rfl ?_
          refine go_iload e9_58 rfl ?_
          refine go_iload e9_60 rfl ?_
          refine go_iload e9_62 rfl ?_
          refine go_iload e9_64 rfl ?_
          refine go_static_5 e9_66 (wd 60 rfl) (wd 61 rfl) (wd 62 rfl) (wd 53 rfl) hy_14 pd_15 rfl (c_cnt hw) rfl 1 rfl (by decide) (by decide) (by decide) (by decide) ?_
          rintro _ _ ⟨z, rfl, hz, rfl⟩
          refine go_icneN e9_69 (tg := 76) (by decide) (Int32.toInt_inj.mp (by rw [hz, hcn])) ?_
          refine go_iconst e9_72 (x := 1) rfl ?_
          refine go_goto e9_73 (tg := 77) (by decide) ?_
          refine go_zreturn e9_77 rfl rfl (by decide) (by decide) ?_
          exact ⟨_, rfl, rfl, rfl⟩
set_option maxRecDepth 65536 in
set_option maxHeartbeats 4000000 in
theorem law_met {l : Launch} {Z : State} {a0 : Array Value} {b : Nat} (hw : ∀ d ∈ tables_1, d.before a0 Z = true) (i0 i1 i2 i3 i4 : Int32) :
    Met l Z a0 b x code maxLocals ret room_1 [.int i0, .int i1, .int i2, .int i3, .int i4] [] (fun v _ => v = some (.int 1)) := by
  refine Met.of_go hw (plainFor_of_name pn_11) (L0 := [.val (.int i0), .val (.int i1), .val (.int i2), .val (.int i3), .val (.int i4), .unset, .unset, .unset, .unset, .unset, .unset, .unset, .unset, .unset, .unset, .unset, .unset, .unset]) rfl ?_
  intro p e s m args below meth c C
  refine go_cut (pc' := 12) (P := fun mb => True) ?_ ?_
  · intro K
    refine go_iload e0_0 rfl ?_
    refine go_iconst e0_2 (x := 1) rfl ?_
    refine go_iand e0_3 ?_
    refine go_ifne e0_4 (tg := 11) (by decide) ?_ ?_
    · intro c4
      refine go_iconst e0_11 (x := 0) rfl ?_
      exact K _ trivial
    · intro c4
      refine go_iconst e0_7 (x := 1) rfl ?_
      refine go_goto e0_8 (tg := 12) (by decide) ?_
      exact K _ trivial
  · intro sm hsm
    refine go_istore_5 e0_12 rfl ?_
    refine go_cut (pc' := 26) (P := fun mb => True) ?_ ?_
    · intro K
      refine go_iload e0_14 rfl ?_
      refine go_ifeq e0_16 (tg := 25) (by decide) ?_ ?_
      · intro c16
        refine go_iloadN e0_25 rfl ?_
        exact K _ trivial
      · intro c16
        refine go_iloadN e0_19 rfl ?_
        refine go_iconst e0_20 (x := 4) rfl ?_
        refine go_irem e0_21 (by decide) ?_
        refine go_goto e0_22 (tg := 26) (by decide) ?_
        exact K _ trivial
    · intro r0 hr0
      refine go_istore_6 e0_26 rfl ?_
      refine go_cut (pc' := 40) (P := fun mb => True) ?_ ?_
      · intro K
        refine go_iload e0_28 rfl ?_
        refine go_ifeq e0_30 (tg := 39) (by decide) ?_ ?_
        · intro c30
          refine go_iloadN e0_39 rfl ?_
          exact K _ trivial
        · intro c30
          refine go_iloadN e0_33 rfl ?_
          refine go_iconst e0_34 (x := 4) rfl ?_
          refine go_irem e0_35 (by decide) ?_
          refine go_goto e0_36 (tg := 40) (by decide) ?_
          exact K _ trivial
      · intro r1 hr1
        refine go_istore_7 e0_40 rfl ?_
        refine go_cut (pc' := 54) (P := fun mb => True) ?_ ?_
        · intro K
          refine go_iload e0_42 rfl ?_
          refine go_ifeq e0_44 (tg := 53) (by decide) ?_ ?_
          · intro c44
            refine go_iloadN e0_53 rfl ?_
            exact K _ trivial
          · intro c44
            refine go_iloadN e0_47 rfl ?_
            refine go_iconst e0_48 (x := 4) rfl ?_
            refine go_irem e0_49 (by decide) ?_
            refine go_goto e0_50 (tg := 54) (by decide) ?_
            exact K _ trivial
        · intro r2 hr2
          refine go_istore_8 e0_54 rfl ?_
          refine go_cut (pc' := 68) (P := fun mb => True) ?_ ?_
          · intro K
            refine go_iload e0_56 rfl ?_
            refine go_ifeq e0_58 (tg := 67) (by decide) ?_ ?_
            · intro c58
              refine go_iloadN e0_67 rfl ?_
              exact K _ trivial
            · intro c58
              refine go_iloadN e0_61 rfl ?_
              refine go_iconst e0_62 (x := 4) rfl ?_
              refine go_irem e0_63 (by decide) ?_
              refine go_goto e0_64 (tg := 68) (by decide) ?_
              exact K _ trivial
          · intro r3 hr3
            refine go_istore_9 e0_68 rfl ?_
            refine go_iconst e0_70 (x := 4) rfl ?_
            refine go_newarray e0_71 (wd 0 rfl) (k := 4) rfl (vs := [.int 0, .int 0, .int 0, .int 0]) rfl (cap := 4) (by decide) (by decide) (by decide) (by decide) ?_
            simp only [List.replicate_succ, List.replicate_zero, List.set_cons_zero, List.set_cons_succ, List.length_nil, List.length_cons, Nat.zero_add, Nat.reduceAdd, List.nil_append, List.cons_append]
            refine go_dup e0_73 rfl ?_
            refine go_iconst e0_74 (x := 0) rfl ?_
            refine go_iload e0_75 rfl ?_
            refine go_iastore e0_77 rfl (k := 0) (by decide) (Nat.le_of_ble_eq_true rfl) ?_
            simp only [List.replicate_succ, List.replicate_zero, List.set_cons_zero, List.set_cons_succ, List.length_nil, List.length_cons, Nat.zero_add, Nat.reduceAdd, List.nil_append, List.cons_append]
            refine go_dup e0_78 rfl ?_
            refine go_iconst e0_79 (x := 1) rfl ?_
            refine go_iload e0_80 rfl ?_
            refine go_iastore e0_82 rfl (k := 1) (by decide) (Nat.le_of_ble_eq_true rfl) ?_
            simp only [List.replicate_succ, List.replicate_zero, List.set_cons_zero, List.set_cons_succ, List.length_nil, List.length_cons, Nat.zero_add, Nat.reduceAdd, List.nil_append, List.cons_append]
            refine go_dup e0_83 rfl ?_
            refine go_iconst e0_84 (x := 2) rfl ?_
            refine go_iload e0_85 rfl ?_
            refine go_iastore e0_87 rfl (k := 2) (by decide) (Nat.le_of_ble_eq_true rfl) ?_
            simp only [List.replicate_succ, List.replicate_zero, List.set_cons_zero, List.set_cons_succ, List.length_nil, List.length_cons, Nat.zero_add, Nat.reduceAdd, List.nil_append, List.cons_append]
            refine go_dup e0_88 rfl ?_
            refine go_iconst e0_89 (x := 3) rfl ?_
            refine go_iload e0_90 rfl ?_
            refine go_iastore e0_92 rfl (k := 3) (by decide) (Nat.le_of_ble_eq_true rfl) ?_
            simp only [List.replicate_succ, List.replicate_zero, List.set_cons_zero, List.set_cons_succ, List.length_nil, List.length_cons, Nat.zero_add, Nat.reduceAdd, List.nil_append, List.cons_append]
            refine go_astore_10 e0_93 rfl rfl ?_
            refine go_new e0_95 (wd 1 rfl) (wd 2 rfl) (wd 3 rfl) (lay_16 hw) nd_17 (by decide) (by decide) ?_
            simp only [List.replicate_succ, List.replicate_zero, List.set_cons_zero, List.set_cons_succ, List.length_nil, List.length_cons, Nat.zero_add, Nat.reduceAdd, List.nil_append, List.cons_append]
            refine go_dup e0_98 rfl ?_
            refine go_aload e0_99 rfl rfl ?_
            refine go_specialV_1 rfl e0_101 (wd 4 rfl) (wd 5 rfl) (wd 6 rfl) (wd 3 rfl) hy_12 pd_7 rfl (c_init hw) rfl 1 rfl (by decide) (by decide) (by decide) (by decide) ?_
            rintro _ ⟨R, A, sl, hl, rfl, hRl, hR4, hSp⟩
            refine go_astore_11 e0_104 rfl rfl ?_
            refine go_cut (pc' := 116) (P := fun mb => mb.toInt = if 0 < r0.toInt then 1 else 0) ?_ ?_
            · intro K
              refine go_iload e0_106 rfl ?_
              refine go_ifle e0_108 (tg := 115) (by decide) ?_ ?_
              · intro c108
                refine go_iconst e0_115 (x := 0) rfl ?_
                first | exact K _ (by rw [if_pos (by omega)]; rfl) | exact K _ (by rw [if_neg (by omega)]; rfl)
              · intro c108
                refine go_iconst e0_111 (x := 1) rfl ?_
                refine go_goto e0_112 (tg := 116) (by decide) ?_
                first | exact K _ (by rw [if_pos (by omega)]; rfl) | exact K _ (by rw [if_neg (by omega)]; rfl)
            · intro t0 ht0
              refine go_cut (pc' := 133) (P := fun mb => mb.toInt = if 0 < r1.toInt ∧ r1.toInt ≠ r0.toInt then 1 else 0) ?_ ?_
              · intro K
                refine go_iload e0_116 rfl ?_
                refine go_ifle e0_118 (tg := 132) (by decide) ?_ ?_
                · intro c118
                  refine go_iconst e0_132 (x := 0) rfl ?_
                  first | exact K _ (by rw [if_pos (by omega)]; rfl) | exact K _ (by rw [if_neg (by omega)]; rfl)
                · intro c118
                  refine go_iload e0_121 rfl ?_
                  refine go_iload e0_123 rfl ?_
                  refine go_iceq e0_125 (tg := 132) (by decide) ?_ ?_
                  · intro c125
                    have d125 := congrArg Int32.toInt c125
                    refine go_iconst e0_132 (x := 0) rfl ?_
                    first | exact K _ (by rw [if_pos (by omega)]; rfl) | exact K _ (by rw [if_neg (by omega)]; rfl)
                  · intro c125
                    have d125 : r1.toInt ≠ r0.toInt := fun z => c125 (Int32.toInt_inj.mp z)
                    refine go_iconst e0_128 (x := 1) rfl ?_
                    refine go_goto e0_129 (tg := 133) (by decide) ?_
                    first | exact K _ (by rw [if_pos (by omega)]; rfl) | exact K _ (by rw [if_neg (by omega)]; rfl)
              · intro t1 ht1
                refine go_iadd e0_133 ?_
                refine go_cut (pc' := 158) (P := fun mb => mb.toInt = if 0 < r2.toInt ∧ r2.toInt ≠ r0.toInt ∧ r2.toInt ≠ r1.toInt then 1 else 0) ?_ ?_
                · intro K
                  refine go_iload e0_134 rfl ?_
                  refine go_ifle e0_136 (tg := 157) (by decide) ?_ ?_
                  · intro c136
                    refine go_iconst e0_157 (x := 0) rfl ?_
                    first | exact K _ (by rw [if_pos (by omega)]; rfl) | exact K _ (by rw [if_neg (by omega)]; rfl)
                  · intro c136
                    refine go_iload e0_139 rfl ?_
                    refine go_iload e0_141 rfl ?_
                    refine go_iceq e0_143 (tg := 157) (by decide) ?_ ?_
                    · intro c143
                      have d143 := congrArg Int32.toInt c143
                      refine go_iconst e0_157 (x := 0) rfl ?_
                      first | exact K _ (by rw [if_pos (by omega)]; rfl) | exact K _ (by rw [if_neg (by omega)]; rfl)
                    · intro c143
                      have d143 : r2.toInt ≠ r0.toInt := fun z => c143 (Int32.toInt_inj.mp z)
                      refine go_iload e0_146 rfl ?_
                      refine go_iload e0_148 rfl ?_
                      refine go_iceq e0_150 (tg := 157) (by decide) ?_ ?_
                      · intro c150
                        have d150 := congrArg Int32.toInt c150
                        refine go_iconst e0_157 (x := 0) rfl ?_
                        first | exact K _ (by rw [if_pos (by omega)]; rfl) | exact K _ (by rw [if_neg (by omega)]; rfl)
                      · intro c150
                        have d150 : r2.toInt ≠ r1.toInt := fun z => c150 (Int32.toInt_inj.mp z)
                        refine go_iconst e0_153 (x := 1) rfl ?_
                        refine go_goto e0_154 (tg := 158) (by decide) ?_
                        first | exact K _ (by rw [if_pos (by omega)]; rfl) | exact K _ (by rw [if_neg (by omega)]; rfl)
                · intro t2 ht2
                  refine go_iadd e0_158 ?_
                  refine go_cut (pc' := 190) (P := fun mb => mb.toInt = if 0 < r3.toInt ∧ r3.toInt ≠ r0.toInt ∧ r3.toInt ≠ r1.toInt ∧ r3.toInt ≠ r2.toInt then 1 else 0) ?_ ?_
                  · intro K
                    refine go_iload e0_159 rfl ?_
                    refine go_ifle e0_161 (tg := 189) (by decide) ?_ ?_
                    · intro c161
                      refine go_iconst e0_189 (x := 0) rfl ?_
                      first | exact K _ (by rw [if_pos (by omega)]; rfl) | exact K _ (by rw [if_neg (by omega)]; rfl)
                    · intro c161
                      refine go_iload e0_164 rfl ?_
                      refine go_iload e0_166 rfl ?_
                      refine go_iceq e0_168 (tg := 189) (by decide) ?_ ?_
                      · intro c168
                        have d168 := congrArg Int32.toInt c168
                        refine go_iconst e0_189 (x := 0) rfl ?_
                        first | exact K _ (by rw [if_pos (by omega)]; rfl) | exact K _ (by rw [if_neg (by omega)]; rfl)
                      · intro c168
                        have d168 : r3.toInt ≠ r0.toInt := fun z => c168 (Int32.toInt_inj.mp z)
                        refine go_iload e0_171 rfl ?_
                        refine go_iload e0_173 rfl ?_
                        refine go_iceq e0_175 (tg := 189) (by decide) ?_ ?_
                        · intro c175
                          have d175 := congrArg Int32.toInt c175
                          refine go_iconst e0_189 (x := 0) rfl ?_
                          first | exact K _ (by rw [if_pos (by omega)]; rfl) | exact K _ (by rw [if_neg (by omega)]; rfl)
                        · intro c175
                          have d175 : r3.toInt ≠ r1.toInt := fun z => c175 (Int32.toInt_inj.mp z)
                          refine go_iload e0_178 rfl ?_
                          refine go_iload e0_180 rfl ?_
                          refine go_iceq e0_182 (tg := 189) (by decide) ?_ ?_
                          · intro c182
                            have d182 := congrArg Int32.toInt c182
                            refine go_iconst e0_189 (x := 0) rfl ?_
                            first | exact K _ (by rw [if_pos (by omega)]; rfl) | exact K _ (by rw [if_neg (by omega)]; rfl)
                          · intro c182
                            have d182 : r3.toInt ≠ r2.toInt := fun z => c182 (Int32.toInt_inj.mp z)
                            refine go_iconst e0_185 (x := 1) rfl ?_
                            refine go_goto e0_186 (tg := 190) (by decide) ?_
                            first | exact K _ (by rw [if_pos (by omega)]; rfl) | exact K _ (by rw [if_neg (by omega)]; rfl)
                  · intro t3 ht3
                    refine go_iadd e0_190 ?_
                    refine go_istoreX_12 e0_191 rfl ?_
                    intro dd hdd
                    have b0 := own_if01 (0 < r0.toInt)
                    have b1 := own_if01 (0 < r1.toInt ∧ r1.toInt ≠ r0.toInt)
                    have b2 := own_if01 (0 < r2.toInt ∧ r2.toInt ≠ r0.toInt ∧ r2.toInt ≠ r1.toInt)
                    have b3 := own_if01 (0 < r3.toInt ∧ r3.toInt ≠ r0.toInt ∧ r3.toInt ≠ r1.toInt ∧ r3.toInt ≠ r2.toInt)
                    have hdd2 : dd.toInt = own_D r0 r1 r2 r3 := by
                      rw [hdd]
                      exact own_add (own_add (own_add ht0 ht1 (by omega) (by omega)) ht2 (by omega) (by omega)) ht3 (by omega) (by omega)
                    rcases own_cases hSp hR4 with ⟨x0, rfl, rfl⟩ | ⟨v0, x0, x1, rfl, rfl, f0⟩ | ⟨v0, v1, x0, x1, x2, rfl, rfl, f0, f1, g1⟩ | ⟨v0, v1, v2, x0, x1, x2, x3, rfl, rfl, f0, f1, f2, g1, g2⟩ | ⟨v0, v1, v2, v3, x0, x1, x2, x3, x4, rfl, rfl, f0, f1, f2, f3, g1, g2, g3⟩
                    · refine go_aload e0_193 rfl rfl ?_
                      refine go_virtual_0 e0_195 (wd 40 rfl) (wd 41 rfl) (wd 43 rfl) (wd 42 rfl) (wd 44 rfl) (wd 3 rfl) hy_12 pd_18 rfl (c_dist hw (nn := 0) rfl rfl rfl) rfl rfl 0 rfl (by decide) (by decide) (by decide) (by decide) ?_
                      rintro _ _ ⟨rfl, rfl⟩
                      try simp only [List.replicate_succ, List.replicate_zero, List.set_cons_zero, List.set_cons_succ, List.length_nil, List.length_cons, Nat.zero_add, Nat.reduceAdd, List.nil_append, List.cons_append]
                      refine go_istore_13 e0_198 rfl ?_
                      refine go_iload e0_200 rfl ?_
                      refine go_iload e0_202 rfl ?_
                      refine go_iceqY e0_204 (tg := 209) (by decide) (Int32.toInt_inj.mp (by rw [hdd2, ← hRl]; rfl)) ?_
                      refine go_iload e0_209 rfl ?_
                      refine go_ifleY e0_211 (tg := 223) (by decide) (by decide) ?_
                      refine go_iconst e0_223 (x := 0) rfl ?_
                      refine go_istore_14 e0_224 rfl ?_
                      refine go_iload e0_226 rfl ?_
                      refine go_iconst e0_228 (x := 1) rfl ?_
                      refine go_icleY e0_229 (tg := 241) (by decide) (by decide) ?_
                      refine go_iconst e0_241 (x := 0) rfl ?_
                      refine go_istore_15 e0_242 rfl ?_
                      refine go_iload e0_244 rfl ?_
                      refine go_iconst e0_246 (x := 2) rfl ?_
                      refine go_icleY e0_247 (tg := 259) (by decide) (by decide) ?_
                      refine go_iconst e0_259 (x := 0) rfl ?_
                      refine go_istore_16 e0_260 rfl ?_
                      refine go_iload e0_262 rfl ?_
                      refine go_iconst e0_264 (x := 3) rfl ?_
                      refine go_icleY e0_265 (tg := 277) (by decide) (by decide) ?_
                      refine go_iconst e0_277 (x := 0) rfl ?_
                      refine go_istore_17 e0_278 rfl ?_
                      refine go_aload e0_280 rfl rfl ?_
                      refine go_iconst e0_282 (x := 0) rfl ?_
                      refine go_iload e0_283 rfl ?_
                      refine go_iload e0_285 rfl ?_
                      refine go_ldc e0_287 (wd 50 rfl) ?_
                      refine go_iconst e0_289 (x := 0) rfl ?_
                      refine go_iload e0_290 rfl ?_
                      refine go_iload e0_292 rfl ?_
                      refine go_iload e0_294 rfl ?_
                      refine go_iload e0_296 rfl ?_
                      refine go_static_10 e0_298 (wd 51 rfl) (wd 52 rfl) (wd 54 rfl) (wd 53 rfl) hy_14 pd_19 rfl (c_chk0 hw (by decide)) rfl 0 rfl (by decide) (by decide) (by decide) (by decide) ?_
                      rintro _ _ ⟨rfl, rfl⟩
                      try simp only [List.replicate_succ, List.replicate_zero, List.set_cons_zero, List.set_cons_succ, List.length_nil, List.length_cons, Nat.zero_add, Nat.reduceAdd, List.nil_append, List.cons_append]
                      refine go_ifeqN e0_301 (tg := 380) (by decide) (by decide) ?_
                      refine go_aload e0_304 rfl rfl ?_
                      refine go_iconst e0_306 (x := 1) rfl ?_
                      refine go_iload e0_307 rfl ?_
                      refine go_iload e0_309 rfl ?_
                      refine go_iload e0_311 rfl ?_
                      refine go_iconst e0_313 (x := 1) rfl ?_
                      refine go_iload e0_314 rfl ?_
                      refine go_iload e0_316 rfl ?_
                      refine go_iload e0_318 rfl ?_
                      refine go_iload e0_320 rfl ?_
                      refine go_static_10 e0_322 (wd 51 rfl) (wd 52 rfl) (wd 54 rfl) (wd 53 rfl) hy_14 pd_19 rfl (c_chk0 hw (by decide)) rfl 0 rfl (by decide) (by decide) (by decide) (by decide) ?_
                      rintro _ _ ⟨rfl, rfl⟩
                      try simp only [List.replicate_succ, List.replicate_zero, List.set_cons_zero, List.set_cons_succ, List.length_nil, List.length_cons, Nat.zero_add, Nat.reduceAdd, List.nil_append, List.cons_append]
                      refine go_ifeqN e0_325 (tg := 380) (by decide) (by decide) ?_
                      refine go_aload e0_328 rfl rfl ?_
                      refine go_iconst e0_330 (x := 2) rfl ?_
                      refine go_iload e0_331 rfl ?_
                      refine go_iload e0_333 rfl ?_
                      refine go_iload e0_335 rfl ?_
                      refine go_iconst e0_337 (x := 1) rfl ?_
                      refine go_iload e0_338 rfl ?_
                      refine go_iload e0_340 rfl ?_
                      refine go_iload e0_342 rfl ?_
                      refine go_iload e0_344 rfl ?_
                      refine go_static_10 e0_346 (wd 51 rfl) (wd 52 rfl) (wd 54 rfl) (wd 53 rfl) hy_14 pd_19 rfl (c_chk0 hw (by decide)) rfl 0 rfl (by decide) (by decide) (by decide) (by decide) ?_
                      rintro _ _ ⟨rfl, rfl⟩
                      try simp only [List.replicate_succ, List.replicate_zero, List.set_cons_zero, List.set_cons_succ, List.length_nil, List.length_cons, Nat.zero_add, Nat.reduceAdd, List.nil_append, List.cons_append]
                      refine go_ifeqN e0_349 (tg := 380) (by decide) (by decide) ?_
                      refine go_aload e0_352 rfl rfl ?_
                      refine go_iconst e0_354 (x := 3) rfl ?_
                      refine go_iload e0_355 rfl ?_
                      refine go_iload e0_357 rfl ?_
                      refine go_iload e0_359 rfl ?_
                      refine go_iconst e0_361 (x := 1) rfl ?_
                      refine go_iload e0_362 rfl ?_
                      refine go_iload e0_364 rfl ?_
                      refine go_iload e0_366 rfl ?_
                      refine go_iload e0_368 rfl ?_
                      refine go_static_10 e0_370 (wd 51 rfl) (wd 52 rfl) (wd 54 rfl) (wd 53 rfl) hy_14 pd_19 rfl (c_chk0 hw (by decide)) rfl 0 rfl (by decide) (by decide) (by decide) (by decide) ?_
                      rintro _ _ ⟨rfl, rfl⟩
                      try simp only [List.replicate_succ, List.replicate_zero, List.set_cons_zero, List.set_cons_succ, List.length_nil, List.length_cons, Nat.zero_add, Nat.reduceAdd, List.nil_append, List.cons_append]
                      refine go_ifeqN e0_373 (tg := 380) (by decide) (by decide) ?_
                      refine go_iconst e0_376 (x := 1) rfl ?_
                      refine go_goto e0_377 (tg := 381) (by decide) ?_
                      refine go_zreturn e0_381 rfl (by decide) (by decide) (by decide) ?_
                      exact rfl
                    · refine go_aload e0_193 rfl rfl ?_
                      refine go_virtual_0 e0_195 (wd 40 rfl) (wd 41 rfl) (wd 43 rfl) (wd 42 rfl) (wd 44 rfl) (wd 3 rfl) hy_12 pd_18 rfl (c_dist hw (nn := 1) rfl rfl rfl) rfl rfl 0 rfl (by decide) (by decide) (by decide) (by decide) ?_
                      rintro _ _ ⟨rfl, rfl⟩
                      try simp only [List.replicate_succ, List.replicate_zero, List.set_cons_zero, List.set_cons_succ, List.length_nil, List.length_cons, Nat.zero_add, Nat.reduceAdd, List.nil_append, List.cons_append]
                      refine go_istore_13 e0_198 rfl ?_
                      refine go_iload e0_200 rfl ?_
                      refine go_iload e0_202 rfl ?_
                      refine go_iceqY e0_204 (tg := 209) (by decide) (Int32.toInt_inj.mp (by rw [hdd2, ← hRl]; rfl)) ?_
                      refine go_iload e0_209 rfl ?_
                      refine go_ifleN e0_211 (tg := 223) (by decide) (by decide) ?_
                      refine go_aload e0_214 rfl rfl ?_
                      refine go_iconst e0_216 (x := 0) rfl ?_
                      refine go_virtual_1 e0_217 (wd 45 rfl) (wd 46 rfl) (wd 48 rfl) (wd 47 rfl) (wd 49 rfl) (wd 3 rfl) hy_12 pd_13 rfl (c_room hw (k := 0) rfl rfl (by decide) rfl) rfl rfl 0 rfl (by decide) (by decide) (by decide) (by decide) ?_
                      rintro _ _ ⟨rfl, rfl⟩
                      try simp only [List.replicate_succ, List.replicate_zero, List.set_cons_zero, List.set_cons_succ, List.length_nil, List.length_cons, Nat.zero_add, Nat.reduceAdd, List.nil_append, List.cons_append]
                      refine go_goto e0_220 (tg := 224) (by decide) ?_
                      refine go_istore_14 e0_224 rfl ?_
                      refine go_iload e0_226 rfl ?_
                      refine go_iconst e0_228 (x := 1) rfl ?_
                      refine go_icleY e0_229 (tg := 241) (by decide) (by decide) ?_
                      refine go_iconst e0_241 (x := 0) rfl ?_
                      refine go_istore_15 e0_242 rfl ?_
                      refine go_iload e0_244 rfl ?_
                      refine go_iconst e0_246 (x := 2) rfl ?_
                      refine go_icleY e0_247 (tg := 259) (by decide) (by decide) ?_
                      refine go_iconst e0_259 (x := 0) rfl ?_
                      refine go_istore_16 e0_260 rfl ?_
                      refine go_iload e0_262 rfl ?_
                      refine go_iconst e0_264 (x := 3) rfl ?_
                      refine go_icleY e0_265 (tg := 277) (by decide) (by decide) ?_
                      refine go_iconst e0_277 (x := 0) rfl ?_
                      refine go_istore_17 e0_278 rfl ?_
                      refine go_aload e0_280 rfl rfl ?_
                      refine go_iconst e0_282 (x := 0) rfl ?_
                      refine go_iload e0_283 rfl ?_
                      refine go_iload e0_285 rfl ?_
                      refine go_ldc e0_287 (wd 50 rfl) ?_
                      refine go_iconst e0_289 (x := 0) rfl ?_
                      refine go_iload e0_290 rfl ?_
                      refine go_iload e0_292 rfl ?_
                      refine go_iload e0_294 rfl ?_
                      refine go_iload e0_296 rfl ?_
                      refine go_static_10 e0_298 (wd 51 rfl) (wd 52 rfl) (wd 54 rfl) (wd 53 rfl) hy_14 pd_19 rfl (c_chk1 hw (k := 0) rfl rfl (by decide) (by decide) rfl rfl (by decide) f0.1 (own_mem f0.2.2) (fun z => absurd rfl z) f0.2.1) rfl 0 rfl (by decide) (by decide) (by decide) (by decide) ?_
                      rintro _ _ ⟨rfl, rfl⟩
                      try simp only [List.replicate_succ, List.replicate_zero, List.set_cons_zero, List.set_cons_succ, List.length_nil, List.length_cons, Nat.zero_add, Nat.reduceAdd, List.nil_append, List.cons_append]
                      refine go_ifeqN e0_301 (tg := 380) (by decide) (by decide) ?_
                      refine go_aload e0_304 rfl rfl ?_
                      refine go_iconst e0_306 (x := 1) rfl ?_
                      refine go_iload e0_307 rfl ?_
                      refine go_iload e0_309 rfl ?_
                      refine go_iload e0_311 rfl ?_
                      refine go_iconst e0_313 (x := 1) rfl ?_
                      refine go_iload e0_314 rfl ?_
                      refine go_iload e0_316 rfl ?_
                      refine go_iload e0_318 rfl ?_
                      refine go_iload e0_320 rfl ?_
                      refine go_static_10 e0_322 (wd 51 rfl) (wd 52 rfl) (wd 54 rfl) (wd 53 rfl) hy_14 pd_19 rfl (c_chk0 hw (by decide)) rfl 0 rfl (by decide) (by decide) (by decide) (by decide) ?_
                      rintro _ _ ⟨rfl, rfl⟩
                      try simp only [List.replicate_succ, List.replicate_zero, List.set_cons_zero, List.set_cons_succ, List.length_nil, List.length_cons, Nat.zero_add, Nat.reduceAdd, List.nil_append, List.cons_append]
                      refine go_ifeqN e0_325 (tg := 380) (by decide) (by decide) ?_
                      refine go_aload e0_328 rfl rfl ?_
                      refine go_iconst e0_330 (x := 2) rfl ?_
                      refine go_iload e0_331 rfl ?_
                      refine go_iload e0_333 rfl ?_
                      refine go_iload e0_335 rfl ?_
                      refine go_iconst e0_337 (x := 1) rfl ?_
                      refine go_iload e0_338 rfl ?_
                      refine go_iload e0_340 rfl ?_
                      refine go_iload e0_342 rfl ?_
                      refine go_iload e0_344 rfl ?_
                      refine go_static_10 e0_346 (wd 51 rfl) (wd 52 rfl) (wd 54 rfl) (wd 53 rfl) hy_14 pd_19 rfl (c_chk0 hw (by decide)) rfl 0 rfl (by decide) (by decide) (by decide) (by decide) ?_
                      rintro _ _ ⟨rfl, rfl⟩
                      try simp only [List.replicate_succ, List.replicate_zero, List.set_cons_zero, List.set_cons_succ, List.length_nil, List.length_cons, Nat.zero_add, Nat.reduceAdd, List.nil_append, List.cons_append]
                      refine go_ifeqN e0_349 (tg := 380) (by decide) (by decide) ?_
                      refine go_aload e0_352 rfl rfl ?_
                      refine go_iconst e0_354 (x := 3) rfl ?_
                      refine go_iload e0_355 rfl ?_
                      refine go_iload e0_357 rfl ?_
                      refine go_iload e0_359 rfl ?_
                      refine go_iconst e0_361 (x := 1) rfl ?_
                      refine go_iload e0_362 rfl ?_
                      refine go_iload e0_364 rfl ?_
                      refine go_iload e0_366 rfl ?_
                      refine go_iload e0_368 rfl ?_
                      refine go_static_10 e0_370 (wd 51 rfl) (wd 52 rfl) (wd 54 rfl) (wd 53 rfl) hy_14 pd_19 rfl (c_chk0 hw (by decide)) rfl 0 rfl (by decide) (by decide) (by decide) (by decide) ?_
                      rintro _ _ ⟨rfl, rfl⟩
                      try simp only [List.replicate_succ, List.replicate_zero, List.set_cons_zero, List.set_cons_succ, List.length_nil, List.length_cons, Nat.zero_add, Nat.reduceAdd, List.nil_append, List.cons_append]
                      refine go_ifeqN e0_373 (tg := 380) (by decide) (by decide) ?_
                      refine go_iconst e0_376 (x := 1) rfl ?_
                      refine go_goto e0_377 (tg := 381) (by decide) ?_
                      refine go_zreturn e0_381 rfl (by decide) (by decide) (by decide) ?_
                      exact rfl
                    · refine go_aload e0_193 rfl rfl ?_
                      refine go_virtual_0 e0_195 (wd 40 rfl) (wd 41 rfl) (wd 43 rfl) (wd 42 rfl) (wd 44 rfl) (wd 3 rfl) hy_12 pd_18 rfl (c_dist hw (nn := 2) rfl rfl rfl) rfl rfl 0 rfl (by decide) (by decide) (by decide) (by decide) ?_
                      rintro _ _ ⟨rfl, rfl⟩
                      try simp only [List.replicate_succ, List.replicate_zero, List.set_cons_zero, List.set_cons_succ, List.length_nil, List.length_cons, Nat.zero_add, Nat.reduceAdd, List.nil_append, List.cons_append]
                      refine go_istore_13 e0_198 rfl ?_
                      refine go_iload e0_200 rfl ?_
                      refine go_iload e0_202 rfl ?_
                      refine go_iceqY e0_204 (tg := 209) (by decide) (Int32.toInt_inj.mp (by rw [hdd2, ← hRl]; rfl)) ?_
                      refine go_iload e0_209 rfl ?_
                      refine go_ifleN e0_211 (tg := 223) (by decide) (by decide) ?_
                      refine go_aload e0_214 rfl rfl ?_
                      refine go_iconst e0_216 (x := 0) rfl ?_
                      refine go_virtual_1 e0_217 (wd 45 rfl) (wd 46 rfl) (wd 48 rfl) (wd 47 rfl) (wd 49 rfl) (wd 3 rfl) hy_12 pd_13 rfl (c_room hw (k := 0) rfl rfl (by decide) rfl) rfl rfl 0 rfl (by decide) (by decide) (by decide) (by decide) ?_
                      rintro _ _ ⟨rfl, rfl⟩
                      try simp only [List.replicate_succ, List.replicate_zero, List.set_cons_zero, List.set_cons_succ, List.length_nil, List.length_cons, Nat.zero_add, Nat.reduceAdd, List.nil_append, List.cons_append]
                      refine go_goto e0_220 (tg := 224) (by decide) ?_
                      refine go_istore_14 e0_224 rfl ?_
                      refine go_iload e0_226 rfl ?_
                      refine go_iconst e0_228 (x := 1) rfl ?_
                      refine go_icleN e0_229 (tg := 241) (by decide) (by decide) ?_
                      refine go_aload e0_232 rfl rfl ?_
                      refine go_iconst e0_234 (x := 1) rfl ?_
                      refine go_virtual_1 e0_235 (wd 45 rfl) (wd 46 rfl) (wd 48 rfl) (wd 47 rfl) (wd 49 rfl) (wd 3 rfl) hy_12 pd_13 rfl (c_room hw (k := 1) rfl rfl (by decide) rfl) rfl rfl 0 rfl (by decide) (by decide) (by decide) (by decide) ?_
                      rintro _ _ ⟨rfl, rfl⟩
                      try simp only [List.replicate_succ, List.replicate_zero, List.set_cons_zero, List.set_cons_succ, List.length_nil, List.length_cons, Nat.zero_add, Nat.reduceAdd, List.nil_append, List.cons_append]
                      refine go_goto e0_238 (tg := 242) (by decide) ?_
                      refine go_istore_15 e0_242 rfl ?_
                      refine go_iload e0_244 rfl ?_
                      refine go_iconst e0_246 (x := 2) rfl ?_
                      refine go_icleY e0_247 (tg := 259) (by decide) (by decide) ?_
                      refine go_iconst e0_259 (x := 0) rfl ?_
                      refine go_istore_16 e0_260 rfl ?_
                      refine go_iload e0_262 rfl ?_
                      refine go_iconst e0_264 (x := 3) rfl ?_
                      refine go_icleY e0_265 (tg := 277) (by decide) (by decide) ?_
                      refine go_iconst e0_277 (x := 0) rfl ?_
                      refine go_istore_17 e0_278 rfl ?_
                      refine go_aload e0_280 rfl rfl ?_
                      refine go_iconst e0_282 (x := 0) rfl ?_
                      refine go_iload e0_283 rfl ?_
                      refine go_iload e0_285 rfl ?_
                      refine go_ldc e0_287 (wd 50 rfl) ?_
                      refine go_iconst e0_289 (x := 0) rfl ?_
                      refine go_iload e0_290 rfl ?_
                      refine go_iload e0_292 rfl ?_
                      refine go_iload e0_294 rfl ?_
                      refine go_iload e0_296 rfl ?_
                      refine go_static_10 e0_298 (wd 51 rfl) (wd 52 rfl) (wd 54 rfl) (wd 53 rfl) hy_14 pd_19 rfl (c_chk1 hw (k := 0) rfl rfl (by decide) (by decide) rfl rfl (by decide) f0.1 (own_mem f0.2.2) (fun z => absurd rfl z) f0.2.1) rfl 0 rfl (by decide) (by decide) (by decide) (by decide) ?_
                      rintro _ _ ⟨rfl, rfl⟩
                      try simp only [List.replicate_succ, List.replicate_zero, List.set_cons_zero, List.set_cons_succ, List.length_nil, List.length_cons, Nat.zero_add, Nat.reduceAdd, List.nil_append, List.cons_append]
                      refine go_ifeqN e0_301 (tg := 380) (by decide) (by decide) ?_
                      refine go_aload e0_304 rfl rfl ?_
                      refine go_iconst e0_306 (x := 1) rfl ?_
                      refine go_iload e0_307 rfl ?_
                      refine go_iload e0_309 rfl ?_
                      refine go_iload e0_311 rfl ?_
                      refine go_iconst e0_313 (x := 1) rfl ?_
                      refine go_iload e0_314 rfl ?_
                      refine go_iload e0_316 rfl ?_
                      refine go_iload e0_318 rfl ?_
                      refine go_iload e0_320 rfl ?_
                      refine go_static_10 e0_322 (wd 51 rfl) (wd 52 rfl) (wd 54 rfl) (wd 53 rfl) hy_14 pd_19 rfl (c_chk1 hw (k := 1) rfl rfl (by decide) (by decide) rfl rfl (by decide) f1.1 (own_mem f1.2.2) (fun _ => g1) f1.2.1) rfl 0 rfl (by decide) (by decide) (by decide) (by decide) ?_
                      rintro _ _ ⟨rfl, rfl⟩
                      try simp only [List.replicate_succ, List.replicate_zero, List.set_cons_zero, List.set_cons_succ, List.length_nil, List.length_cons, Nat.zero_add, Nat.reduceAdd, List.nil_append, List.cons_append]
                      refine go_ifeqN e0_325 (tg := 380) (by decide) (by decide) ?_
                      refine go_aload e0_328 rfl rfl ?_
                      refine go_iconst e0_330 (x := 2) rfl ?_
                      refine go_iload e0_331 rfl ?_
                      refine go_iload e0_333 rfl ?_
                      refine go_iload e0_335 rfl ?_
                      refine go_iconst e0_337 (x := 1) rfl ?_
                      refine go_iload e0_338 rfl ?_
                      refine go_iload e0_340 rfl ?_
                      refine go_iload e0_342 rfl ?_
                      refine go_iload e0_344 rfl ?_
                      refine go_static_10 e0_346 (wd 51 rfl) (wd 52 rfl) (wd 54 rfl) (wd 53 rfl) hy_14 pd_19 rfl (c_chk0 hw (by decide)) rfl 0 rfl (by decide) (by decide) (by decide) (by decide) ?_
                      rintro _ _ ⟨rfl, rfl⟩
                      try simp only [List.replicate_succ, List.replicate_zero, List.set_cons_zero, List.set_cons_succ, List.length_nil, List.length_cons, Nat.zero_add, Nat.reduceAdd, List.nil_append, List.cons_append]
                      refine go_ifeqN e0_349 (tg := 380) (by decide) (by decide) ?_
                      refine go_aload e0_352 rfl rfl ?_
                      refine go_iconst e0_354 (x := 3) rfl ?_
                      refine go_iload e0_355 rfl ?_
                      refine go_iload e0_357 rfl ?_
                      refine go_iload e0_359 rfl ?_
                      refine go_iconst e0_361 (x := 1) rfl ?_
                      refine go_iload e0_362 rfl ?_
                      refine go_iload e0_364 rfl ?_
                      refine go_iload e0_366 rfl ?_
                      refine go_iload e0_368 rfl ?_
                      refine go_static_10 e0_370 (wd 51 rfl) (wd 52 rfl) (wd 54 rfl) (wd 53 rfl) hy_14 pd_19 rfl (c_chk0 hw (by decide)) rfl 0 rfl (by decide) (by decide) (by decide) (by decide) ?_
                      rintro _ _ ⟨rfl, rfl⟩
                      try simp only [List.replicate_succ, List.replicate_zero, List.set_cons_zero, List.set_cons_succ, List.length_nil, List.length_cons, Nat.zero_add, Nat.reduceAdd, List.nil_append, List.cons_append]
                      refine go_ifeqN e0_373 (tg := 380) (by decide) (by decide) ?_
                      refine go_iconst e0_376 (x := 1) rfl ?_
                      refine go_goto e0_377 (tg := 381) (by decide) ?_
                      refine go_zreturn e0_381 rfl (by decide) (by decide) (by decide) ?_
                      exact rfl
                    · refine go_aload e0_193 rfl rfl ?_
                      refine go_virtual_0 e0_195 (wd 40 rfl) (wd 41 rfl) (wd 43 rfl) (wd 42 rfl) (wd 44 rfl) (wd 3 rfl) hy_12 pd_18 rfl (c_dist hw (nn := 3) rfl rfl rfl) rfl rfl 0 rfl (by decide) (by decide) (by decide) (by decide) ?_
                      rintro _ _ ⟨rfl, rfl⟩
                      try simp only [List.replicate_succ, List.replicate_zero, List.set_cons_zero, List.set_cons_succ, List.length_nil, List.length_cons, Nat.zero_add, Nat.reduceAdd, List.nil_append, List.cons_append]
                      refine go_istore_13 e0_198 rfl ?_
                      refine go_iload e0_200 rfl ?_
                      refine go_iload e0_202 rfl ?_
                      refine go_iceqY e0_204 (tg := 209) (by decide) (Int32.toInt_inj.mp (by rw [hdd2, ← hRl]; rfl)) ?_
                      refine go_iload e0_209 rfl ?_
                      refine go_ifleN e0_211 (tg := 223) (by decide) (by decide) ?_
                      refine go_aload e0_214 rfl rfl ?_
                      refine go_iconst e0_216 (x := 0) rfl ?_
                      refine go_virtual_1 e0_217 (wd 45 rfl) (wd 46 rfl) (wd 48 rfl) (wd 47 rfl) (wd 49 rfl) (wd 3 rfl) hy_12 pd_13 rfl (c_room hw (k := 0) rfl rfl (by decide) rfl) rfl rfl 0 rfl (by decide) (by decide) (by decide) (by decide) ?_
                      rintro _ _ ⟨rfl, rfl⟩
                      try simp only [List.replicate_succ, List.replicate_zero, List.set_cons_zero, List.set_cons_succ, List.length_nil, List.length_cons, Nat.zero_add, Nat.reduceAdd, List.nil_append, List.cons_append]
                      refine go_goto e0_220 (tg := 224) (by decide) ?_
                      refine go_istore_14 e0_224 rfl ?_
                      refine go_iload e0_226 rfl ?_
                      refine go_iconst e0_228 (x := 1) rfl ?_
                      refine go_icleN e0_229 (tg := 241) (by decide) (by decide) ?_
                      refine go_aload e0_232 rfl rfl ?_
                      refine go_iconst e0_234 (x := 1) rfl ?_
                      refine go_virtual_1 e0_235 (wd 45 rfl) (wd 46 rfl) (wd 48 rfl) (wd 47 rfl) (wd 49 rfl) (wd 3 rfl) hy_12 pd_13 rfl (c_room hw (k := 1) rfl rfl (by decide) rfl) rfl rfl 0 rfl (by decide) (by decide) (by decide) (by decide) ?_
                      rintro _ _ ⟨rfl, rfl⟩
                      try simp only [List.replicate_succ, List.replicate_zero, List.set_cons_zero, List.set_cons_succ, List.length_nil, List.length_cons, Nat.zero_add, Nat.reduceAdd, List.nil_append, List.cons_append]
                      refine go_goto e0_238 (tg := 242) (by decide) ?_
                      refine go_istore_15 e0_242 rfl ?_
                      refine go_iload e0_244 rfl ?_
                      refine go_iconst e0_246 (x := 2) rfl ?_
                      refine go_icleN e0_247 (tg := 259) (by decide) (by decide) ?_
                      refine go_aload e0_250 rfl rfl ?_
                      refine go_iconst e0_252 (x := 2) rfl ?_
                      refine go_virtual_1 e0_253 (wd 45 rfl) (wd 46 rfl) (wd 48 rfl) (wd 47 rfl) (wd 49 rfl) (wd 3 rfl) hy_12 pd_13 rfl (c_room hw (k := 2) rfl rfl (by decide) rfl) rfl rfl 0 rfl (by decide) (by decide) (by decide) (by decide) ?_
                      rintro _ _ ⟨rfl, rfl⟩
                      try simp only [List.replicate_succ, List.replicate_zero, List.set_cons_zero, List.set_cons_succ, List.length_nil, List.length_cons, Nat.zero_add, Nat.reduceAdd, List.nil_append, List.cons_append]
                      refine go_goto e0_256 (tg := 260) (by decide) ?_
                      refine go_istore_16 e0_260 rfl ?_
                      refine go_iload e0_262 rfl ?_
                      refine go_iconst e0_264 (x := 3) rfl ?_
                      refine go_icleY e0_265 (tg := 277) (by decide) (by decide) ?_
                      refine go_iconst e0_277 (x := 0) rfl ?_
                      refine go_istore_17 e0_278 rfl ?_
                      refine go_aload e0_280 rfl rfl ?_
                      refine go_iconst e0_282 (x := 0) rfl ?_
                      refine go_iload e0_283 rfl ?_
                      refine go_iload e0_285 rfl ?_
                      refine go_ldc e0_287 (wd 50 rfl) ?_
                      refine go_iconst e0_289 (x := 0) rfl ?_
                      refine go_iload e0_290 rfl ?_
                      refine go_iload e0_292 rfl ?_
                      refine go_iload e0_294 rfl ?_
                      refine go_iload e0_296 rfl ?_
                      refine go_static_10 e0_298 (wd 51 rfl) (wd 52 rfl) (wd 54 rfl) (wd 53 rfl) hy_14 pd_19 rfl (c_chk1 hw (k := 0) rfl rfl (by decide) (by decide) rfl rfl (by decide) f0.1 (own_mem f0.2.2) (fun z => absurd rfl z) f0.2.1) rfl 0 rfl (by decide) (by decide) (by decide) (by decide) ?_
                      rintro _ _ ⟨rfl, rfl⟩
                      try simp only [List.replicate_succ, List.replicate_zero, List.set_cons_zero, List.set_cons_succ, List.length_nil, List.length_cons, Nat.zero_add, Nat.reduceAdd, List.nil_append, List.cons_append]
                      refine go_ifeqN e0_301 (tg := 380) (by decide) (by decide) ?_
                      refine go_aload e0_304 rfl rfl ?_
                      refine go_iconst e0_306 (x := 1) rfl ?_
                      refine go_iload e0_307 rfl ?_
                      refine go_iload e0_309 rfl ?_
                      refine go_iload e0_311 rfl ?_
                      refine go_iconst e0_313 (x := 1) rfl ?_
                      refine go_iload e0_314 rfl ?_
                      refine go_iload e0_316 rfl ?_
                      refine go_iload e0_318 rfl ?_
                      refine go_iload e0_320 rfl ?_
                      refine go_static_10 e0_322 (wd 51 rfl) (wd 52 rfl) (wd 54 rfl) (wd 53 rfl) hy_14 pd_19 rfl (c_chk1 hw (k := 1) rfl rfl (by decide) (by decide) rfl rfl (by decide) f1.1 (own_mem f1.2.2) (fun _ => g1) f1.2.1) rfl 0 rfl (by decide) (by decide) (by decide) (by decide) ?_
                      rintro _ _ ⟨rfl, rfl⟩
                      try simp only [List.replicate_succ, List.replicate_zero, List.set_cons_zero, List.set_cons_succ, List.length_nil, List.length_cons, Nat.zero_add, Nat.reduceAdd, List.nil_append, List.cons_append]
                      refine go_ifeqN e0_325 (tg := 380) (by decide) (by decide) ?_
                      refine go_aload e0_328 rfl rfl ?_
                      refine go_iconst e0_330 (x := 2) rfl ?_
                      refine go_iload e0_331 rfl ?_
                      refine go_iload e0_333 rfl ?_
                      refine go_iload e0_335 rfl ?_
                      refine go_iconst e0_337 (x := 1) rfl ?_
                      refine go_iload e0_338 rfl ?_
                      refine go_iload e0_340 rfl ?_
                      refine go_iload e0_342 rfl ?_
                      refine go_iload e0_344 rfl ?_
                      refine go_static_10 e0_346 (wd 51 rfl) (wd 52 rfl) (wd 54 rfl) (wd 53 rfl) hy_14 pd_19 rfl (c_chk1 hw (k := 2) rfl rfl (by decide) (by decide) rfl rfl (by decide) f2.1 (own_mem f2.2.2) (fun _ => g2) f2.2.1) rfl 0 rfl (by decide) (by decide) (by decide) (by decide) ?_
                      rintro _ _ ⟨rfl, rfl⟩
                      try simp only [List.replicate_succ, List.replicate_zero, List.set_cons_zero, List.set_cons_succ, List.length_nil, List.length_cons, Nat.zero_add, Nat.reduceAdd, List.nil_append, List.cons_append]
                      refine go_ifeqN e0_349 (tg := 380) (by decide) (by decide) ?_
                      refine go_aload e0_352 rfl rfl ?_
                      refine go_iconst e0_354 (x := 3) rfl ?_
                      refine go_iload e0_355 rfl ?_
                      refine go_iload e0_357 rfl ?_
                      refine go_iload e0_359 rfl ?_
                      refine go_iconst e0_361 (x := 1) rfl ?_
                      refine go_iload e0_362 rfl ?_
                      refine go_iload e0_364 rfl ?_
                      refine go_iload e0_366 rfl ?_
                      refine go_iload e0_368 rfl ?_
                      refine go_static_10 e0_370 (wd 51 rfl) (wd 52 rfl) (wd 54 rfl) (wd 53 rfl) hy_14 pd_19 rfl (c_chk0 hw (by decide)) rfl 0 rfl (by decide) (by decide) (by decide) (by decide) ?_
                      rintro _ _ ⟨rfl, rfl⟩
                      try simp only [List.replicate_succ, List.replicate_zero, List.set_cons_zero, List.set_cons_succ, List.length_nil, List.length_cons, Nat.zero_add, Nat.reduceAdd, List.nil_append, List.cons_append]
                      refine go_ifeqN e0_373 (tg := 380) (by decide) (by decide) ?_
                      refine go_iconst e0_376 (x := 1) rfl ?_
                      refine go_goto e0_377 (tg := 381) (by decide) ?_
                      refine go_zreturn e0_381 rfl (by decide) (by decide) (by decide) ?_
                      exact rfl
                    · refine go_aload e0_193 rfl rfl ?_
                      refine go_virtual_0 e0_195 (wd 40 rfl) (wd 41 rfl) (wd 43 rfl) (wd 42 rfl) (wd 44 rfl) (wd 3 rfl) hy_12 pd_18 rfl (c_dist hw (nn := 4) rfl rfl rfl) rfl rfl 0 rfl (by decide) (by decide) (by decide) (by decide) ?_
                      rintro _ _ ⟨rfl, rfl⟩
                      try simp only [List.replicate_succ, List.replicate_zero, List.set_cons_zero, List.set_cons_succ, List.length_nil, List.length_cons, Nat.zero_add, Nat.reduceAdd, List.nil_append, List.cons_append]
                      refine go_istore_13 e0_198 rfl ?_
                      refine go_iload e0_200 rfl ?_
                      refine go_iload e0_202 rfl ?_
                      refine go_iceqY e0_204 (tg := 209) (by decide) (Int32.toInt_inj.mp (by rw [hdd2, ← hRl]; rfl)) ?_
                      refine go_iload e0_209 rfl ?_
                      refine go_ifleN e0_211 (tg := 223) (by decide) (by decide) ?_
                      refine go_aload e0_214 rfl rfl ?_
                      refine go_iconst e0_216 (x := 0) rfl ?_
                      refine go_virtual_1 e0_217 (wd 45 rfl) (wd 46 rfl) (wd 48 rfl) (wd 47 rfl) (wd 49 rfl) (wd 3 rfl) hy_12 pd_13 rfl (c_room hw (k := 0) rfl rfl (by decide) rfl) rfl rfl 0 rfl (by decide) (by decide) (by decide) (by decide) ?_
                      rintro _ _ ⟨rfl, rfl⟩
                      try simp only [List.replicate_succ, List.replicate_zero, List.set_cons_zero, List.set_cons_succ, List.length_nil, List.length_cons, Nat.zero_add, Nat.reduceAdd, List.nil_append, List.cons_append]
                      refine go_goto e0_220 (tg := 224) (by decide) ?_
                      refine go_istore_14 e0_224 rfl ?_
                      refine go_iload e0_226 rfl ?_
                      refine go_iconst e0_228 (x := 1) rfl ?_
                      refine go_icleN e0_229 (tg := 241) (by decide) (by decide) ?_
                      refine go_aload e0_232 rfl rfl ?_
                      refine go_iconst e0_234 (x := 1) rfl ?_
                      refine go_virtual_1 e0_235 (wd 45 rfl) (wd 46 rfl) (wd 48 rfl) (wd 47 rfl) (wd 49 rfl) (wd 3 rfl) hy_12 pd_13 rfl (c_room hw (k := 1) rfl rfl (by decide) rfl) rfl rfl 0 rfl (by decide) (by decide) (by decide) (by decide) ?_
                      rintro _ _ ⟨rfl, rfl⟩
                      try simp only [List.replicate_succ, List.replicate_zero, List.set_cons_zero, List.set_cons_succ, List.length_nil, List.length_cons, Nat.zero_add, Nat.reduceAdd, List.nil_append, List.cons_append]
                      refine go_goto e0_238 (tg := 242) (by decide) ?_
                      refine go_istore_15 e0_242 rfl ?_
                      refine go_iload e0_244 rfl ?_
                      refine go_iconst e0_246 (x := 2) rfl ?_
                      refine go_icleN e0_247 (tg := 259) (by decide) (by decide) ?_
                      refine go_aload e0_250 rfl rfl ?_
                      refine go_iconst e0_252 (x := 2) rfl ?_
                      refine go_virtual_1 e0_253 (wd 45 rfl) (wd 46 rfl) (wd 48 rfl) (wd 47 rfl) (wd 49 rfl) (wd 3 rfl) hy_12 pd_13 rfl (c_room hw (k := 2) rfl rfl (by decide) rfl) rfl rfl 0 rfl (by decide) (by decide) (by decide) (by decide) ?_
                      rintro _ _ ⟨rfl, rfl⟩
                      try simp only [List.replicate_succ, List.replicate_zero, List.set_cons_zero, List.set_cons_succ, List.length_nil, List.length_cons, Nat.zero_add, Nat.reduceAdd, List.nil_append, List.cons_append]
                      refine go_goto e0_256 (tg := 260) (by decide) ?_
                      refine go_istore_16 e0_260 rfl ?_
                      refine go_iload e0_262 rfl ?_
                      refine go_iconst e0_264 (x := 3) rfl ?_
                      refine go_icleN e0_265 (tg := 277) (by decide) (by decide) ?_
                      refine go_aload e0_268 rfl rfl ?_
                      refine go_iconst e0_270 (x := 3) rfl ?_
                      refine go_virtual_1 e0_271 (wd 45 rfl) (wd 46 rfl) (wd 48 rfl) (wd 47 rfl) (wd 49 rfl) (wd 3 rfl) hy_12 pd_13 rfl (c_room hw (k := 3) rfl rfl (by decide) rfl) rfl rfl 0 rfl (by decide) (by decide) (by decide) (by decide) ?_
                      rintro _ _ ⟨rfl, rfl⟩
                      try simp only [List.replicate_succ, List.replicate_zero, List.set_cons_zero, List.set_cons_succ, List.length_nil, List.length_cons, Nat.zero_add, Nat.reduceAdd, List.nil_append, List.cons_append]
                      refine go_goto e0_274 (tg := 278) (by decide) ?_
                      refine go_istore_17 e0_278 rfl ?_
                      refine go_aload e0_280 rfl rfl ?_
                      refine go_iconst e0_282 (x := 0) rfl ?_
                      refine go_iload e0_283 rfl ?_
                      refine go_iload e0_285 rfl ?_
                      refine go_ldc e0_287 (wd 50 rfl) ?_
                      refine go_iconst e0_289 (x := 0) rfl ?_
                      refine go_iload e0_290 rfl ?_
                      refine go_iload e0_292 rfl ?_
                      refine go_iload e0_294 rfl ?_
                      refine go_iload e0_296 rfl ?_
                      refine go_static_10 e0_298 (wd 51 rfl) (wd 52 rfl) (wd 54 rfl) (wd 53 rfl) hy_14 pd_19 rfl (c_chk1 hw (k := 0) rfl rfl (by decide) (by decide) rfl rfl (by decide) f0.1 (own_mem f0.2.2) (fun z => absurd rfl z) f0.2.1) rfl 0 rfl (by decide) (by decide) (by decide) (by decide) ?_
                      rintro _ _ ⟨rfl, rfl⟩
                      try simp only [List.replicate_succ, List.replicate_zero, List.set_cons_zero, List.set_cons_succ, List.length_nil, List.length_cons, Nat.zero_add, Nat.reduceAdd, List.nil_append, List.cons_append]
                      refine go_ifeqN e0_301 (tg := 380) (by decide) (by decide) ?_
                      refine go_aload e0_304 rfl rfl ?_
                      refine go_iconst e0_306 (x := 1) rfl ?_
                      refine go_iload e0_307 rfl ?_
                      refine go_iload e0_309 rfl ?_
                      refine go_iload e0_311 rfl ?_
                      refine go_iconst e0_313 (x := 1) rfl ?_
                      refine go_iload e0_314 rfl ?_
                      refine go_iload e0_316 rfl ?_
                      refine go_iload e0_318 rfl ?_
                      refine go_iload e0_320 rfl ?_
                      refine go_static_10 e0_322 (wd 51 rfl) (wd 52 rfl) (wd 54 rfl) (wd 53 rfl) hy_14 pd_19 rfl (c_chk1 hw (k := 1) rfl rfl (by decide) (by decide) rfl rfl (by decide) f1.1 (own_mem f1.2.2) (fun _ => g1) f1.2.1) rfl 0 rfl (by decide) (by decide) (by decide) (by decide) ?_
                      rintro _ _ ⟨rfl, rfl⟩
                      try simp only [List.replicate_succ, List.replicate_zero, List.set_cons_zero, List.set_cons_succ, List.length_nil, List.length_cons, Nat.zero_add, Nat.reduceAdd, List.nil_append, List.cons_append]
                      refine go_ifeqN e0_325 (tg := 380) (by decide) (by decide) ?_
                      refine go_aload e0_328 rfl rfl ?_
                      refine go_iconst e0_330 (x := 2) rfl ?_
                      refine go_iload e0_331 rfl ?_
                      refine go_iload e0_333 rfl ?_
                      refine go_iload e0_335 rfl ?_
                      refine go_iconst e0_337 (x := 1) rfl ?_
                      refine go_iload e0_338 rfl ?_
                      refine go_iload e0_340 rfl ?_
                      refine go_iload e0_342 rfl ?_
                      refine go_iload e0_344 rfl ?_
                      refine go_static_10 e0_346 (wd 51 rfl) (wd 52 rfl) (wd 54 rfl) (wd 53 rfl) hy_14 pd_19 rfl (c_chk1 hw (k := 2) rfl rfl (by decide) (by decide) rfl rfl (by decide) f2.1 (own_mem f2.2.2) (fun _ => g2) f2.2.1) rfl 0 rfl (by decide) (by decide) (by decide) (by decide) ?_
                      rintro _ _ ⟨rfl, rfl⟩
                      try simp only [List.replicate_succ, List.replicate_zero, List.set_cons_zero, List.set_cons_succ, List.length_nil, List.length_cons, Nat.zero_add, Nat.reduceAdd, List.nil_append, List.cons_append]
                      refine go_ifeqN e0_349 (tg := 380) (by decide) (by decide) ?_
                      refine go_aload e0_352 rfl rfl ?_
                      refine go_iconst e0_354 (x := 3) rfl ?_
                      refine go_iload e0_355 rfl ?_
                      refine go_iload e0_357 rfl ?_
                      refine go_iload e0_359 rfl ?_
                      refine go_iconst e0_361 (x := 1) rfl ?_
                      refine go_iload e0_362 rfl ?_
                      refine go_iload e0_364 rfl ?_
                      refine go_iload e0_366 rfl ?_
                      refine go_iload e0_368 rfl ?_
                      refine go_static_10 e0_370 (wd 51 rfl) (wd 52 rfl) (wd 54 rfl) (wd 53 rfl) hy_14 pd_19 rfl (c_chk1 hw (k := 3) rfl rfl (by decide) (by decide) rfl rfl (by decide) f3.1 (own_mem f3.2.2) (fun _ => g3) f3.2.1) rfl 0 rfl (by decide) (by decide) (by decide) (by decide) ?_
                      rintro _ _ ⟨rfl, rfl⟩
                      try simp only [List.replicate_succ, List.replicate_zero, List.set_cons_zero, List.set_cons_succ, List.length_nil, List.length_cons, Nat.zero_add, Nat.reduceAdd, List.nil_append, List.cons_append]
                      refine go_ifeqN e0_373 (tg := 380) (by decide) (by decide) ?_
                      refine go_iconst e0_376 (x := 1) rfl ?_
                      refine go_goto e0_377 (tg := 381) (by decide) ?_
                      refine go_zreturn e0_381 rfl (by decide) (by decide) (by decide) ?_
                      exact rfl
set_option maxRecDepth 65536 in
set_option maxHeartbeats 40000000 in
theorem comes_1 {Post : Tables → Env → Array Value → State → Outcome → State → Prop} (hpost : ∀ tb e args s v u, (limb_1_1.after args s (.returned v) u = true ∧ limb_1_2.after args s (.returned v) u = true ∧ True) → FrameEnd s (.returned v) u (Jvm.fieldLocs frame_1_writes args s ++ Jvm.arrayLocs frame_1_arrays args s ++ Jvm.staticLocs frame_1_statics s) 24 128 → Post tb e args s (.returned v) u) :
    ArmFor flags0 classFile x code maxLocals ret World_1 tables_1 room_1 Calls_1 rest_1 Pre_1 Post := by
  intro l hfl _ _ p e ha hc hk s m args below hf hA hF happ hP
  obtain ⟨hcalls, hrest, hpre⟩ := hP
  obtain ⟨-, -, -, hnamed, -, -, -, hat⟩ := (Spec.applies_iff hf).mp happ
  obtain ⟨hg, hn⟩ := and_e (Cond.before_iff.mp (show (Jvm.Cond.and given_1 narrow_1).before args s = true from hpre))
  obtain ⟨h1, h2⟩ := and_e hg
  obtain ⟨w0, w1, w2, w3, w4, rfl⟩ : ∃ w0 w1 w2 w3 w4 : Value, args = #[w0, w1, w2, w3, w4] := by
    have hs : args.size = 5 := by simpa [Cond.value, given_1] using h1
    obtain ⟨L⟩ := args
    match L, hs with
    | [w0, w1, w2, w3, w4], _ => exact ⟨w0, w1, w2, w3, w4, rfl⟩
  have hw := fun d (hd : d ∈ tables_1) => atoms_spec (ws := Jvm.Cond.code x code maxLocals ret :: tables_1) hat d (List.mem_cons_of_mem _ hd)
  obtain ⟨a0, b0⟩ := and_e h2
  obtain ⟨i0, e0⟩ := is_v a0
  obtain rfl : w0 = (.int i0) := Option.some.inj e0
  obtain ⟨a1, b1⟩ := and_e b0
  obtain ⟨i1, e1⟩ := is_v a1
  obtain rfl : w1 = (.int i1) := Option.some.inj e1
  obtain ⟨a2, b2⟩ := and_e b1
  obtain ⟨i2, e2⟩ := is_v a2
  obtain rfl : w2 = (.int i2) := Option.some.inj e2
  obtain ⟨a3, b3⟩ := and_e b2
  obtain ⟨i3, e3⟩ := is_v a3
  obtain rfl : w3 = (.int i3) := Option.some.inj e3
  obtain ⟨i4, e4⟩ := is_v b3
  obtain rfl : w4 = (.int i4) := Option.some.inj e4
  obtain ⟨n, o, h1, h2, h3, _, L, rfl, ⟨N, v', H', rfl, -, rfl⟩, hq⟩ := law_met (l := l) (Z := s) (b := s.heap.size) hw i0 i1 i2 i3 i4 s.heap (Rel.nil s.heap) tables_1 p e ha hc hk s m _ below hf ((Spec.applies_iff_loose hf).mp happ).1 ⟨rfl, State.Warmed39.refl s, rfl⟩ trivial
  refine ⟨n, _, h1, h2, h3, hpost _ _ _ _ _ _ ⟨Cond.after_iff.mpr rfl, Cond.after_iff.mpr (eq_i res_at (Term.int_eval (1)) rfl), trivial⟩ ⟨hq.1, hq.2.1, (hq.2.2.sift fun y hy => Or.inr (N y hy)).mono (by decide) (by decide)⟩⟩
theorem main_1_1 : Claimed_1_1 := comes_1 fun _ _ _ _ _ _ h hF => ⟨h.1, hF⟩
theorem main_1_2 : Claimed_1_2 := comes_1 fun _ _ _ _ _ _ h hF => ⟨h.2.1, hF⟩
end Jvm.Pilot.@@N@@
namespace Jvm.Pilot.@@N@@
open Jvm Jvm.ClassFile Sem Op Lib Jvm.Free Jvm.Stand Jvm.Pilot.@@N@@.Jvm.D
/-! MADE BY PROGRAM (witnessworld.py) out of the Statement's table words and the real class files: 13 classes; the members and pool entries that the words name. The judged class is class 1, her method 1. -/
namespace start1
open Jvm.ClassFile
def u (s : String) : CpInfo := .utf8 (stringToUtf16 s)
/-- a pool by its gaps: so many unusable entries, then the entry; so many at the end -/
def gap : Nat → List CpInfo → List CpInfo
  | 0, r => r
  | n + 1, r => .unusable :: gap n r
def poolList (es : List (Nat × CpInfo)) (last : Nat) : List CpInfo := es.foldr (fun e r => gap e.1 (e.2 :: r)) (gap last [])
def pool (es : List (Nat × CpInfo)) (last : Nat) : Array CpInfo := ⟨poolList es last⟩
def fileOf (pool : Array CpInfo) (this : Nat) (attrs : Array Attribute := #[]) (ms : Array MethodInfo := #[]) (fl : Nat := 33) (sup : Nat := 0) (ifs : Array Nat := #[]) (fds : Array FieldInfo := #[]) : ClassFile where
  minorVersion := 0
  majorVersion := 65
  constantPool := pool
  accessFlags := fl
  thisClass := this
  superClass := sup
  interfaces := ifs
  fields := fds
  methods := ms
  attributes := attrs
def plain (name : String) (sup : Option ClassId) : Class where
  name := name
  kind := .ordinary
  loader := none
  accessFlags := 33
  super := sup
  interfaces := #[]
  cf := none
  fields := #[]
  methods := #[]
  instanceTypes := #[]
  staticTypes := #[]
  resolved := #[]
  callSites := []
  init := .initialized
  statics := none
  mirror := none

def pool0 : Array CpInfo := pool [(5, u "<init>"), (0, u "()V"), (1, .class_ 10), (1, u "java/lang/Object"), (85, u "clone"), (0, u "()Ljava/lang/Object;")] 26

def k0c0 : Code := { maxStack := 0, maxLocals := 1, code := object_method_1_code, exceptionTable := #[], attributes := #[] }
def k0m0 : Method := { name := "<init>", desc := "()V", sig := { parameters := [], returnType := none }, accessFlags := 1, code := some k0c0 }
def k0m1 : Method := { name := "clone", desc := "()Ljava/lang/Object;", sig := { parameters := [], returnType := some (.object "java/lang/Object") }, accessFlags := 260, code := none }
/-- java/lang/Object -/
def k0 : Class := { plain "java/lang/Object" none with
  accessFlags := 33
  interfaces := #[]
  cf := some (fileOf pool0 8 #[] #[{ accessFlags := 1, nameIndex := 5, descriptorIndex := 6, attributes := #[] }, { accessFlags := 260, nameIndex := 96, descriptorIndex := 97, attributes := #[] }] 33 0 #[] #[])
  fields := #[]
  methods := #[k0m0, k0m1]
  instanceTypes := #[]
  staticTypes := #[]
  resolved := Array.replicate 124 none
  statics := none }

def pool1 : Array CpInfo := pool [(2, .class_ 4), (1, u "java/lang/Object"), (0, u "<init>"), (0, u "()V"), (0, .class_ 8), (0, u "com/example/outliers_into_crowds/outliersintocrowds/schedule/Splits"), (0, .methodref 7 10), (0, .nameAndType 5 11), (0, u "([I)V"), (0, .methodref 7 13), (0, .nameAndType 14 15), (0, u "distinct"), (0, u "()I"), (0, .methodref 7 17), (0, .nameAndType 18 19), (0, u "room"), (0, u "(I)I"), (2, .integer 2147483647), (0, .methodref 24 25), (0, .class_ 26), (0, .nameAndType 27 28), (0, u "com/example/outliers_into_crowds/outliersintocrowds/schedule/SplitsSlotsWithPinLaw"), (0, u "check"), (0, u "(Lcom/example/outliers_into_crowds/outliersintocrowds/schedule/Splits;IIIIZIIII)Z"), (0, .methodref 7 30), (0, .nameAndType 31 19), (0, u "slotsWith"), (0, .methodref 24 33), (0, .nameAndType 34 35), (0, u "cnt"), (0, u "(IIIII)I"), (2, u "law"), (0, u "(IIIII)Z")] 5

def k1m0 : Method := { name := "<init>", desc := "()V", sig := { parameters := [], returnType := none }, accessFlags := 1, code := none }
def k1c1 : Code := { maxStack := 10, maxLocals := 18, code := code, exceptionTable := #[], attributes := #[] }
def k1m1 : Method := { name := "law", desc := "(IIIII)Z", sig := { parameters := [.int, .int, .int, .int, .int], returnType := some .boolean }, accessFlags := 9, code := some k1c1 }
def k1c2 : Code := { maxStack := 6, maxLocals := 10, code := method_3_code, exceptionTable := #[], attributes := #[] }
def k1m2 : Method := { name := "check", desc := "(Lcom/example/outliers_into_crowds/outliersintocrowds/schedule/Splits;IIIIZIIII)Z", sig := { parameters := [(.object "com/example/outliers_into_crowds/outliersintocrowds/schedule/Splits"), .int, .int, .int, .int, .boolean, .int, .int, .int, .int], returnType := some .boolean }, accessFlags := 10, code := some k1c2 }
def k1c3 : Code := { maxStack := 3, maxLocals := 5, code := method_4_code, exceptionTable := #[], attributes := #[] }
def k1m3 : Method := { name := "cnt", desc := "(IIIII)I", sig := { parameters := [.int, .int, .int, .int, .int], returnType := some .int }, accessFlags := 10, code := some k1c3 }
/-- com/example/outliers_into_crowds/outliersintocrowds/schedule/SplitsSlotsWithPinLaw -/
def k1 : Class := { plain "com/example/outliers_into_crowds/outliersintocrowds/schedule/SplitsSlotsWithPinLaw" (some 0) with
  accessFlags := 49
  interfaces := #[]
  cf := some (fileOf pool1 24 #[] #[{ accessFlags := 1, nameIndex := 5, descriptorIndex := 6, attributes := #[] }, { accessFlags := 9, nameIndex := 38, descriptorIndex := 39, attributes := #[] }, { accessFlags := 10, nameIndex := 27, descriptorIndex := 28, attributes := #[] }, { accessFlags := 10, nameIndex := 34, descriptorIndex := 35, attributes := #[] }] 49 2 #[] #[])
  fields := #[]
  methods := #[k1m0, k1m1, k1m2, k1m3]
  instanceTypes := #[]
  staticTypes := #[]
  resolved := Array.replicate 45 none
  statics := none }

def pool2 : Array CpInfo := pool [(1, .methodref 2 3), (0, .class_ 4), (0, .nameAndType 5 6), (0, u "java/lang/Object"), (0, u "<init>"), (0, u "()V"), (0, .methodref 8 9), (0, .class_ 10), (0, .nameAndType 11 12), (0, u "[I"), (0, u "clone"), (0, u "()Ljava/lang/Object;"), (0, .methodref 14 15), (0, .class_ 16), (0, .nameAndType 17 18), (0, u "java/util/Arrays"), (0, u "sort"), (0, u "([I)V"), (0, .fieldref 20 21), (0, .class_ 22), (0, .nameAndType 23 10), (0, u "com/example/outliers_into_crowds/outliersintocrowds/schedule/Splits"), (0, u "rooms"), (0, .fieldref 20 25), (0, .nameAndType 26 10), (0, u "ahead"), (0, .fieldref 20 28), (0, .nameAndType 29 30), (0, u "held"), (0, u "[J"), (0, .class_ 32), (0, u "com/example/outliers_into_crowds/outliersintocrowds/schedule/Splits$Cursor"), (39, u "(I)I"), (14, u "()I"), (0, u "distinct"), (0, u "room"), (0, u "slotsWith")] 10

def k2c0 : Code := { maxStack := 4, maxLocals := 10, code := prog_37_method_1_code, exceptionTable := #[], attributes := #[] }
def k2m0 : Method := { name := "<init>", desc := "([I)V", sig := { parameters := [(.array .int)], returnType := none }, accessFlags := 0, code := some k2c0 }
def k2c1 : Code := { maxStack := 1, maxLocals := 1, code := prog_37_method_5_code, exceptionTable := #[], attributes := #[] }
def k2m1 : Method := { name := "distinct", desc := "()I", sig := { parameters := [], returnType := some .int }, accessFlags := 0, code := some k2c1 }
def k2c2 : Code := { maxStack := 2, maxLocals := 2, code := prog_37_method_6_code, exceptionTable := #[], attributes := #[] }
def k2m2 : Method := { name := "room", desc := "(I)I", sig := { parameters := [.int], returnType := some .int }, accessFlags := 0, code := some k2c2 }
def k2c3 : Code := { maxStack := 3, maxLocals := 2, code := prog_37_method_7_code, exceptionTable := #[], attributes := #[] }
def k2m3 : Method := { name := "slotsWith", desc := "(I)I", sig := { parameters := [.int], returnType := some .int }, accessFlags := 0, code := some k2c3 }
/-- com/example/outliers_into_crowds/outliersintocrowds/schedule/Splits -/
def k2 : Class := { plain "com/example/outliers_into_crowds/outliersintocrowds/schedule/Splits" (some 0) with
  accessFlags := 32
  interfaces := #[]
  cf := some (fileOf pool2 20 #[.nestMembers #[31]] #[{ accessFlags := 0, nameIndex := 5, descriptorIndex := 18, attributes := #[] }, { accessFlags := 0, nameIndex := 88, descriptorIndex := 87, attributes := #[] }, { accessFlags := 0, nameIndex := 89, descriptorIndex := 72, attributes := #[] }, { accessFlags := 0, nameIndex := 90, descriptorIndex := 72, attributes := #[] }] 32 2 #[] #[{ accessFlags := 18, nameIndex := 23, descriptorIndex := 10, attributes := #[] }, { accessFlags := 18, nameIndex := 26, descriptorIndex := 10, attributes := #[] }, { accessFlags := 18, nameIndex := 29, descriptorIndex := 30, attributes := #[] }])
  fields := #[{ name := "rooms", type := (.array .int), accessFlags := 18, slot := 0, constantValue := 0 }, { name := "ahead", type := (.array .int), accessFlags := 18, slot := 1, constantValue := 0 }, { name := "held", type := (.array .long), accessFlags := 18, slot := 2, constantValue := 0 }]
  methods := #[k2m0, k2m1, k2m2, k2m3]
  instanceTypes := #[(.array .int), (.array .int), (.array .long)]
  staticTypes := #[]
  resolved := Array.replicate 101 none
  statics := none }

def pool3 : Array CpInfo := pool [(1, .class_ 2), (0, u "java/lang/Cloneable"), (0, .class_ 4), (0, u "java/lang/Object")] 2

/-- java/lang/Cloneable -/
def k3 : Class := { plain "java/lang/Cloneable" (some 0) with
  accessFlags := 1537
  interfaces := #[]
  cf := some (fileOf pool3 1 #[] #[] 1537 3 #[] #[])
  fields := #[]
  methods := #[]
  instanceTypes := #[]
  staticTypes := #[]
  resolved := Array.replicate 7 none
  statics := none }

def pool4 : Array CpInfo := pool [(2, .class_ 4), (1, u "java/lang/Object"), (0, u "<init>"), (0, u "()V"), (0, .methodref 8 9), (0, .class_ 10), (0, .nameAndType 11 12), (0, u "java/util/DualPivotQuicksort"), (0, u "sort"), (0, u "([IIII)V"), (1, .class_ 16), (1, u "java/util/Arrays"), (57, .class_ 76), (1, u "java/util/Arrays$NaturalOrder"), (36, .class_ 115), (1, u "java/util/Arrays$LegacyMergeSort"), (1, u "Z"), (257, .class_ 376), (0, u "java/util/Arrays$ArrayList"), (68, u "$assertionsDisabled"), (269, u "MIN_ARRAY_SORT_GRAN"), (0, u "I"), (2, u "INSERTIONSORT_THRESHOLD"), (6, u "([I)V"), (248, .class_ 976), (0, u "java/util/Arrays$ArrayItr")] 52

def k4m0 : Method := { name := "<init>", desc := "()V", sig := { parameters := [], returnType := none }, accessFlags := 2, code := none }
def k4c1 : Code := { maxStack := 4, maxLocals := 1, code := jdk_65_method_2_code, exceptionTable := #[], attributes := #[] }
def k4m1 : Method := { name := "sort", desc := "([I)V", sig := { parameters := [(.array .int)], returnType := none }, accessFlags := 9, code := some k4c1 }
/-- java/util/Arrays -/
def k4 : Class := { plain "java/util/Arrays" (some 0) with
  accessFlags := 49
  interfaces := #[]
  cf := some (fileOf pool4 14 #[.nestMembers #[975, 375, 113, 74]] #[{ accessFlags := 2, nameIndex := 5, descriptorIndex := 6, attributes := #[] }, { accessFlags := 9, nameIndex := 11, descriptorIndex := 726, attributes := #[] }] 49 2 #[] #[{ accessFlags := 26, nameIndex := 715, descriptorIndex := 716, attributes := #[] }, { accessFlags := 26, nameIndex := 719, descriptorIndex := 716, attributes := #[] }, { accessFlags := 4120, nameIndex := 445, descriptorIndex := 117, attributes := #[] }])
  fields := #[{ name := "MIN_ARRAY_SORT_GRAN", type := .int, accessFlags := 26, slot := 0, constantValue := 0 }, { name := "INSERTIONSORT_THRESHOLD", type := .int, accessFlags := 26, slot := 1, constantValue := 0 }, { name := "$assertionsDisabled", type := .boolean, accessFlags := 4120, slot := 2, constantValue := 0 }]
  methods := #[k4m0, k4m1]
  instanceTypes := #[]
  staticTypes := #[.int, .int, .boolean]
  resolved := Array.replicate 1029 none
  statics := none }

def pool5 : Array CpInfo := pool [(1, .class_ 2), (0, u "java/util/DualPivotQuicksort"), (5, .class_ 10), (1, u "java/lang/Object"), (0, u "<init>"), (0, u "()V"), (4, .class_ 18), (0, u "java/util/DualPivotQuicksort$Sorter"), (7, .methodref 1 27), (0, .nameAndType 28 29), (0, u "sort"), (0, u "(Ljava/util/DualPivotQuicksort$Sorter;[IIII)V"), (3, u "([IIII)V"), (0, .methodref 1 35), (0, .nameAndType 36 37), (0, u "insertionSort"), (0, u "([III)V"), (30, u "I"), (4, .class_ 74), (0, u "java/util/DualPivotQuicksort$RunMerger"), (10, .class_ 86), (0, u "java/util/DualPivotQuicksort$Merger"), (127, u "MAX_MIXED_INSERTION_SORT_SIZE"), (2, u "MAX_INSERTION_SORT_SIZE"), (1, u "MIN_PARALLEL_SORT_SIZE"), (1, u "MIN_TRY_MERGE_SIZE"), (0, u "MIN_FIRST_RUN_SIZE"), (1, u "MIN_FIRST_RUNS_FACTOR"), (1, u "MAX_RUN_CAPACITY"), (1, u "MIN_RUN_COUNT"), (1, u "MIN_PARALLEL_MERGE_PARTS_SIZE"), (0, u "MIN_BYTE_COUNTING_SORT_SIZE"), (1, u "MIN_SHORT_OR_CHAR_COUNTING_SORT_SIZE"), (1, u "DELTA"), (1, u "MAX_RECURSION_DEPTH"), (1, u "NUM_BYTE_VALUES"), (1, u "MAX_BYTE_INDEX"), (0, u "NUM_CHAR_VALUES"), (0, u "NUM_SHORT_VALUES"), (0, u "MAX_SHORT_INDEX")] 86

def k5m0 : Method := { name := "<init>", desc := "()V", sig := { parameters := [], returnType := none }, accessFlags := 2, code := none }
def k5c1 : Code := { maxStack := 9, maxLocals := 7, code := jdk_2529_method_3_code, exceptionTable := #[], attributes := #[] }
def k5m1 : Method := { name := "sort", desc := "([IIII)V", sig := { parameters := [(.array .int), .int, .int, .int], returnType := none }, accessFlags := 8, code := some k5c1 }
def k5c2 : Code := { maxStack := 6, maxLocals := 21, code := jdk_2529_method_4_code, exceptionTable := #[], attributes := #[] }
def k5m2 : Method := { name := "sort", desc := "(Ljava/util/DualPivotQuicksort$Sorter;[IIII)V", sig := { parameters := [(.object "java/util/DualPivotQuicksort$Sorter"), (.array .int), .int, .int, .int], returnType := none }, accessFlags := 8, code := some k5c2 }
def k5c3 : Code := { maxStack := 4, maxLocals := 6, code := jdk_2529_method_6_code, exceptionTable := #[], attributes := #[] }
def k5m3 : Method := { name := "insertionSort", desc := "([III)V", sig := { parameters := [(.array .int), .int, .int], returnType := none }, accessFlags := 10, code := some k5c3 }
/-- java/util/DualPivotQuicksort -/
def k5 : Class := { plain "java/util/DualPivotQuicksort" (some 0) with
  accessFlags := 48
  interfaces := #[]
  cf := some (fileOf pool5 1 #[.nestMembers #[73, 85, 17]] #[{ accessFlags := 2, nameIndex := 11, descriptorIndex := 12, attributes := #[] }, { accessFlags := 8, nameIndex := 28, descriptorIndex := 33, attributes := #[] }, { accessFlags := 8, nameIndex := 28, descriptorIndex := 29, attributes := #[] }, { accessFlags := 10, nameIndex := 36, descriptorIndex := 37, attributes := #[] }] 48 8 #[] #[{ accessFlags := 26, nameIndex := 214, descriptorIndex := 68, attributes := #[] }, { accessFlags := 26, nameIndex := 217, descriptorIndex := 68, attributes := #[] }, { accessFlags := 26, nameIndex := 219, descriptorIndex := 68, attributes := #[] }, { accessFlags := 26, nameIndex := 221, descriptorIndex := 68, attributes := #[] }, { accessFlags := 26, nameIndex := 222, descriptorIndex := 68, attributes := #[] }, { accessFlags := 26, nameIndex := 224, descriptorIndex := 68, attributes := #[] }, { accessFlags := 26, nameIndex := 226, descriptorIndex := 68, attributes := #[] }, { accessFlags := 26, nameIndex := 228, descriptorIndex := 68, attributes := #[] }, { accessFlags := 26, nameIndex := 230, descriptorIndex := 68, attributes := #[] }, { accessFlags := 26, nameIndex := 231, descriptorIndex := 68, attributes := #[] }, { accessFlags := 26, nameIndex := 233, descriptorIndex := 68, attributes := #[] }, { accessFlags := 26, nameIndex := 235, descriptorIndex := 68, attributes := #[] }, { accessFlags := 26, nameIndex := 237, descriptorIndex := 68, attributes := #[] }, { accessFlags := 26, nameIndex := 239, descriptorIndex := 68, attributes := #[] }, { accessFlags := 26, nameIndex := 241, descriptorIndex := 68, attributes := #[] }, { accessFlags := 26, nameIndex := 242, descriptorIndex := 68, attributes := #[] }, { accessFlags := 26, nameIndex := 243, descriptorIndex := 68, attributes := #[] }, { accessFlags := 26, nameIndex := 244, descriptorIndex := 68, attributes := #[] }])
  fields := #[{ name := "MAX_MIXED_INSERTION_SORT_SIZE", type := .int, accessFlags := 26, slot := 0, constantValue := 0 }, { name := "MAX_INSERTION_SORT_SIZE", type := .int, accessFlags := 26, slot := 1, constantValue := 0 }, { name := "MIN_PARALLEL_SORT_SIZE", type := .int, accessFlags := 26, slot := 2, constantValue := 0 }, { name := "MIN_TRY_MERGE_SIZE", type := .int, accessFlags := 26, slot := 3, constantValue := 0 }, { name := "MIN_FIRST_RUN_SIZE", type := .int, accessFlags := 26, slot := 4, constantValue := 0 }, { name := "MIN_FIRST_RUNS_FACTOR", type := .int, accessFlags := 26, slot := 5, constantValue := 0 }, { name := "MAX_RUN_CAPACITY", type := .int, accessFlags := 26, slot := 6, constantValue := 0 }, { name := "MIN_RUN_COUNT", type := .int, accessFlags := 26, slot := 7, constantValue := 0 }, { name := "MIN_PARALLEL_MERGE_PARTS_SIZE", type := .int, accessFlags := 26, slot := 8, constantValue := 0 }, { name := "MIN_BYTE_COUNTING_SORT_SIZE", type := .int, accessFlags := 26, slot := 9, constantValue := 0 }, { name := "MIN_SHORT_OR_CHAR_COUNTING_SORT_SIZE", type := .int, accessFlags := 26, slot := 10, constantValue := 0 }, { name := "DELTA", type := .int, accessFlags := 26, slot := 11, constantValue := 0 }, { name := "MAX_RECURSION_DEPTH", type := .int, accessFlags := 26, slot := 12, constantValue := 0 }, { name := "NUM_BYTE_VALUES", type := .int, accessFlags := 26, slot := 13, constantValue := 0 }, { name := "MAX_BYTE_INDEX", type := .int, accessFlags := 26, slot := 14, constantValue := 0 }, { name := "NUM_CHAR_VALUES", type := .int, accessFlags := 26, slot := 15, constantValue := 0 }, { name := "NUM_SHORT_VALUES", type := .int, accessFlags := 26, slot := 16, constantValue := 0 }, { name := "MAX_SHORT_INDEX", type := .int, accessFlags := 26, slot := 17, constantValue := 0 }]
  methods := #[k5m0, k5m1, k5m2, k5m3]
  instanceTypes := #[]
  staticTypes := #[.int, .int, .int, .int, .int, .int, .int, .int, .int, .int, .int, .int, .int, .int, .int, .int, .int, .int]
  resolved := Array.replicate 331 none
  statics := none }

def pool6 : Array CpInfo := pool [(1, u "java/io/Serializable"), (0, .class_ 1), (0, u "java/lang/Object"), (0, .class_ 3)] 3

/-- java/io/Serializable -/
def k6 : Class := { plain "java/io/Serializable" (some 0) with
  accessFlags := 1537
  interfaces := #[]
  cf := some (fileOf pool6 2 #[] #[] 1537 4 #[] #[])
  fields := #[]
  methods := #[]
  instanceTypes := #[]
  staticTypes := #[]
  resolved := Array.replicate 8 none
  statics := none }

/-- the primitive byte -/
def k7 : Class := { plain "byte" none with kind := .primitive 'B', accessFlags := 0x411 }
/-- [B -/
def k8 : Class := { plain "[B" (some 0) with kind := .array 7 .byte, interfaces := #[3, 6], accessFlags := 1041 }

/-- the primitive int -/
def k9 : Class := { plain "int" none with kind := .primitive 'I', accessFlags := 0x411 }
/-- [I -/
def k10 : Class := { plain "[I" (some 0) with kind := .array 9 .int, interfaces := #[3, 6], accessFlags := 1041 }

/-- the primitive long -/
def k11 : Class := { plain "long" none with kind := .primitive 'J', accessFlags := 0x411 }
/-- [J -/
def k12 : Class := { plain "[J" (some 0) with kind := .array 11 .long, interfaces := #[3, 6], accessFlags := 1041 }

def heap : Heap := #[]
def classes : Array Class := #[k0, k1, k2, k3, k4, k5, k6, k7, k8, k9, k10, k11, k12]
def interned : List (Array UInt16 × Addr) := []
def slotsUsed : Nat := 0
def theMethod : MethodId := ⟨1, 1⟩
def args0 : Array Value := #[.int 5, .int 2, .int 9, .int 1, .int 4]
def aboutOver (below : List Frame) : State where
  vm := { classes := classes, interned := interned.toArray }
  heap := heap
  slotsUsed := slotsUsed
  threads := #[{ frames := .invoking theMethod args0 :: below }]
def below0 : List Frame := [.native { method := ⟨0, 0⟩, args := #[] }]
def about1 : State := aboutOver below0
def p0 : Program := .bare "" "" ""
def e0 : Env := launch0.env 0 0 0
theorem w_frames : about1.frames = Frame.invoking theMethod args0 :: below0 := rfl
set_option maxRecDepth 65536 in
theorem w_args : argsFit about1.vm theMethod args0 = true := by decide +kernel
set_option maxRecDepth 65536 in
theorem w_heap : heapFits about1 = true := by decide +kernel
set_option maxRecDepth 65536 in
theorem w_runnable : about1.curStatus? = some .runnable := by decide +kernel
set_option maxRecDepth 65536 in
theorem w_alone : about1.alone = true := by decide +kernel
set_option maxRecDepth 65536 in
theorem w_named : about1.methodNamed? x = some theMethod := by decide +kernel
set_option maxRecDepth 65536 in
theorem w_hears : about1.hears theMethod below0 = true := by decide +kernel
set_option maxRecDepth 65536 in
theorem w_ripe : about1.ripe theMethod args0 below0 = true := by decide +kernel
theorem w_running : about1.status = .running := rfl
set_option maxRecDepth 65536 in
theorem w_room : about1.hasRoom e0.platform room_1 = true :=
  launch0.hasRoom_least _ room_1 (by decide +kernel) (by decide +kernel) (by decide +kernel) (by decide +kernel) (by decide +kernel) (by decide +kernel)
theorem allAtoms_all (ts : List Jvm.Cond) (a : Array Jvm.Value) (st : Jvm.State) : (allAtoms ts).before a st = ts.all (fun c => c.before a st) := by
  induction ts with
  | nil => rfl
  | cons c t ih =>
    show (Jvm.Cond.and c (allAtoms t)).before a st = _
    rw [Jvm.Cond.before_and, ih, List.all_cons]
def words1 : List Jvm.Cond := Jvm.Cond.code x code maxLocals ret :: tables_1
/-- a 'code' word, met by the world's own term for the bytes: nothing is compared byte by byte -/
theorem code_word {y : MethodName} {bytes : ByteArray} {mx : Nat} {rt : Option FieldType} {a : Array Value} {s : State} {m : MethodId} {meth : Method} {c : Code} (h1 : s.methodNamed? y = some m) (h2 : s.vm.method? m = some meth) (h3 : meth.code = some c) (h4 : c.code = bytes)
    (h5 : (c.maxLocals == mx && c.exceptionTable.isEmpty && decide (c.maxStack ≤ mostOperands) && decide (meth.sig.returnType = rt) && !meth.locks && decide (parseMethodDescriptor y.desc = some meth.sig)) = true) : (Jvm.Cond.code y bytes mx rt).before a s = true := by
  simp only [Bool.and_eq_true, beq_iff_eq, Bool.not_eq_true', decide_eq_true_eq] at h5
  obtain ⟨⟨⟨⟨⟨g1, g2⟩, g3⟩, g4⟩, g5⟩, g6⟩ := h5
  simp [Cond.before, Cond.holds, Cond.value, h1, h2, h3, h4, g1, g2, g3, g4, g5, g6]
def isCode : Jvm.Cond → Bool
  | .code _ _ _ _ => true
  | _ => false
theorem all_split {L : List Jvm.Cond} {P : Jvm.Cond → Bool} (h1 : L.all (fun c => isCode c || P c) = true) (h2 : ∀ c ∈ L.filter isCode, P c = true) : L.all P = true := by
  refine List.all_eq_true.mpr fun c hc => ?_
  have h := List.all_eq_true.mp h1 c hc
  rcases Bool.eq_false_or_eq_true (isCode c) with hi | hi
  · exact h2 c (List.mem_filter.mpr ⟨hc, hi⟩)
  · simpa [hi] using h
set_option maxRecDepth 65536 in
theorem w_c0 : (Jvm.Cond.code x code maxLocals ret).before args0 about1 = true := code_word (m := ⟨1, 1⟩) (meth := k1m1) (c := k1c1) (by decide +kernel) rfl rfl rfl (by decide +kernel)
set_option maxRecDepth 65536 in
theorem w_c1 : (Jvm.Cond.code ({ cls := "com/example/outliers_into_crowds/outliersintocrowds/schedule/Splits", name := "<init>", desc := "([I)V" } : Jvm.MethodName) prog_37_method_1_code (10 : Nat) (Option.none : Option Jvm.ClassFile.FieldType)).before args0 about1 = true := code_word (m := ⟨2, 0⟩) (meth := k2m0) (c := k2c0) (by decide +kernel) rfl rfl rfl (by decide +kernel)
set_option maxRecDepth 65536 in
theorem w_c2 : (Jvm.Cond.code ({ cls := "java/lang/Object", name := "<init>", desc := "()V" } : Jvm.MethodName) object_method_1_code (1 : Nat) (Option.none : Option Jvm.ClassFile.FieldType)).before args0 about1 = true := code_word (m := ⟨0, 0⟩) (meth := k0m0) (c := k0c0) (by decide +kernel) rfl rfl rfl (by decide +kernel)
set_option maxRecDepth 65536 in
theorem w_c3 : (Jvm.Cond.code ({ cls := "java/util/Arrays", name := "sort", desc := "([I)V" } : Jvm.MethodName) jdk_65_method_2_code (1 : Nat) (Option.none : Option Jvm.ClassFile.FieldType)).before args0 about1 = true := code_word (m := ⟨4, 1⟩) (meth := k4m1) (c := k4c1) (by decide +kernel) rfl rfl rfl (by decide +kernel)
set_option maxRecDepth 65536 in
theorem w_c4 : (Jvm.Cond.code ({ cls := "java/util/DualPivotQuicksort", name := "sort", desc := "([IIII)V" } : Jvm.MethodName) jdk_2529_method_3_code (7 : Nat) (Option.none : Option Jvm.ClassFile.FieldType)).before args0 about1 = true := code_word (m := ⟨5, 1⟩) (meth := k5m1) (c := k5c1) (by decide +kernel) rfl rfl rfl (by decide +kernel)
set_option maxRecDepth 65536 in
theorem w_c5 : (Jvm.Cond.code ({ cls := "java/util/DualPivotQuicksort", name := "sort", desc := "(Ljava/util/DualPivotQuicksort$Sorter;[IIII)V" } : Jvm.MethodName) jdk_2529_method_4_code (21 : Nat) (Option.none : Option Jvm.ClassFile.FieldType)).before args0 about1 = true := code_word (m := ⟨5, 2⟩) (meth := k5m2) (c := k5c2) (by decide +kernel) rfl rfl rfl (by decide +kernel)
set_option maxRecDepth 65536 in
theorem w_c6 : (Jvm.Cond.code ({ cls := "java/util/DualPivotQuicksort", name := "insertionSort", desc := "([III)V" } : Jvm.MethodName) jdk_2529_method_6_code (6 : Nat) (Option.none : Option Jvm.ClassFile.FieldType)).before args0 about1 = true := code_word (m := ⟨5, 3⟩) (meth := k5m3) (c := k5c3) (by decide +kernel) rfl rfl rfl (by decide +kernel)
set_option maxRecDepth 65536 in
theorem w_c7 : (Jvm.Cond.code ({ cls := "com/example/outliers_into_crowds/outliersintocrowds/schedule/Splits", name := "distinct", desc := "()I" } : Jvm.MethodName) prog_37_method_5_code (1 : Nat) (Option.some Jvm.ClassFile.FieldType.int)).before args0 about1 = true := code_word (m := ⟨2, 1⟩) (meth := k2m1) (c := k2c1) (by decide +kernel) rfl rfl rfl (by decide +kernel)
set_option maxRecDepth 65536 in
theorem w_c8 : (Jvm.Cond.code ({ cls := "com/example/outliers_into_crowds/outliersintocrowds/schedule/Splits", name := "room", desc := "(I)I" } : Jvm.MethodName) prog_37_method_6_code (2 : Nat) (Option.some Jvm.ClassFile.FieldType.int)).before args0 about1 = true := code_word (m := ⟨2, 2⟩) (meth := k2m2) (c := k2c2) (by decide +kernel) rfl rfl rfl (by decide +kernel)
set_option maxRecDepth 65536 in
theorem w_c9 : (Jvm.Cond.code ({ cls := "com/example/outliers_into_crowds/outliersintocrowds/schedule/SplitsSlotsWithPinLaw", name := "check", desc := "(Lcom/example/outliers_into_crowds/outliersintocrowds/schedule/Splits;IIIIZIIII)Z" } : Jvm.MethodName) method_3_code (10 : Nat) (Option.some Jvm.ClassFile.FieldType.boolean)).before args0 about1 = true := code_word (m := ⟨1, 2⟩) (meth := k1m2) (c := k1c2) (by decide +kernel) rfl rfl rfl (by decide +kernel)
set_option maxRecDepth 65536 in
theorem w_c10 : (Jvm.Cond.code ({ cls := "com/example/outliers_into_crowds/outliersintocrowds/schedule/Splits", name := "slotsWith", desc := "(I)I" } : Jvm.MethodName) prog_37_method_7_code (2 : Nat) (Option.some Jvm.ClassFile.FieldType.int)).before args0 about1 = true := code_word (m := ⟨2, 3⟩) (meth := k2m3) (c := k2c3) (by decide +kernel) rfl rfl rfl (by decide +kernel)
set_option maxRecDepth 65536 in
theorem w_c11 : (Jvm.Cond.code ({ cls := "com/example/outliers_into_crowds/outliersintocrowds/schedule/SplitsSlotsWithPinLaw", name := "cnt", desc := "(IIIII)I" } : Jvm.MethodName) method_4_code (5 : Nat) (Option.some Jvm.ClassFile.FieldType.int)).before args0 about1 = true := code_word (m := ⟨1, 3⟩) (meth := k1m3) (c := k1c3) (by decide +kernel) rfl rfl rfl (by decide +kernel)
def codes1 : List Jvm.Cond := [Jvm.Cond.code x code maxLocals ret, Jvm.Cond.code ({ cls := "com/example/outliers_into_crowds/outliersintocrowds/schedule/Splits", name := "<init>", desc := "([I)V" } : Jvm.MethodName) prog_37_method_1_code (10 : Nat) (Option.none : Option Jvm.ClassFile.FieldType), Jvm.Cond.code ({ cls := "java/lang/Object", name := "<init>", desc := "()V" } : Jvm.MethodName) object_method_1_code (1 : Nat) (Option.none : Option Jvm.ClassFile.FieldType), Jvm.Cond.code ({ cls := "java/util/Arrays", name := "sort", desc := "([I)V" } : Jvm.MethodName) jdk_65_method_2_code (1 : Nat) (Option.none : Option Jvm.ClassFile.FieldType), Jvm.Cond.code ({ cls := "java/util/DualPivotQuicksort", name := "sort", desc := "([IIII)V" } : Jvm.MethodName) jdk_2529_method_3_code (7 : Nat) (Option.none : Option Jvm.ClassFile.FieldType), Jvm.Cond.code ({ cls := "java/util/DualPivotQuicksort", name := "sort", desc := "(Ljava/util/DualPivotQuicksort$Sorter;[IIII)V" } : Jvm.MethodName) jdk_2529_method_4_code (21 : Nat) (Option.none : Option Jvm.ClassFile.FieldType), Jvm.Cond.code ({ cls := "java/util/DualPivotQuicksort", name := "insertionSort", desc := "([III)V" } : Jvm.MethodName) jdk_2529_method_6_code (6 : Nat) (Option.none : Option Jvm.ClassFile.FieldType), Jvm.Cond.code ({ cls := "com/example/outliers_into_crowds/outliersintocrowds/schedule/Splits", name := "distinct", desc := "()I" } : Jvm.MethodName) prog_37_method_5_code (1 : Nat) (Option.some Jvm.ClassFile.FieldType.int), Jvm.Cond.code ({ cls := "com/example/outliers_into_crowds/outliersintocrowds/schedule/Splits", name := "room", desc := "(I)I" } : Jvm.MethodName) prog_37_method_6_code (2 : Nat) (Option.some Jvm.ClassFile.FieldType.int), Jvm.Cond.code ({ cls := "com/example/outliers_into_crowds/outliersintocrowds/schedule/SplitsSlotsWithPinLaw", name := "check", desc := "(Lcom/example/outliers_into_crowds/outliersintocrowds/schedule/Splits;IIIIZIIII)Z" } : Jvm.MethodName) method_3_code (10 : Nat) (Option.some Jvm.ClassFile.FieldType.boolean), Jvm.Cond.code ({ cls := "com/example/outliers_into_crowds/outliersintocrowds/schedule/Splits", name := "slotsWith", desc := "(I)I" } : Jvm.MethodName) prog_37_method_7_code (2 : Nat) (Option.some Jvm.ClassFile.FieldType.int), Jvm.Cond.code ({ cls := "com/example/outliers_into_crowds/outliersintocrowds/schedule/SplitsSlotsWithPinLaw", name := "cnt", desc := "(IIIII)I" } : Jvm.MethodName) method_4_code (5 : Nat) (Option.some Jvm.ClassFile.FieldType.int)]
set_option maxRecDepth 65536 in
theorem codes_eq : words1.filter isCode = codes1 := rfl
theorem w_codes : ∀ c ∈ words1.filter isCode, c.before args0 about1 = true := by
  rw [codes_eq]
  intro c hc
  simp only [codes1, List.mem_cons, List.not_mem_nil, or_false] at hc
  rcases hc with rfl | rfl | rfl | rfl | rfl | rfl | rfl | rfl | rfl | rfl | rfl | rfl
  · exact w_c0
  · exact w_c1
  · exact w_c2
  · exact w_c3
  · exact w_c4
  · exact w_c5
  · exact w_c6
  · exact w_c7
  · exact w_c8
  · exact w_c9
  · exact w_c10
  · exact w_c11
set_option maxRecDepth 65536 in
theorem w_t1 : (words1.take 24).all (fun c => isCode c || c.before args0 about1) = true := by decide +kernel
set_option maxRecDepth 65536 in
theorem w_t2 : ((words1.drop 24).take 24).all (fun c => isCode c || c.before args0 about1) = true := by decide +kernel
set_option maxRecDepth 65536 in
theorem w_t3 : ((words1.drop 24).drop 24).all (fun c => isCode c || c.before args0 about1) = true := by decide +kernel
theorem w_tables : (allAtoms (Jvm.Cond.code x code maxLocals ret :: tables_1)).before args0 about1 = true := by
  rw [allAtoms_all]
  show words1.all (fun c => c.before args0 about1) = true
  refine all_split ?_ w_codes
  rw [← List.take_append_drop 24 words1, List.all_append, w_t1, ← List.take_append_drop 24 (words1.drop 24), List.all_append, w_t2, w_t3]
  rfl
set_option maxRecDepth 65536 in
theorem w_case : (Jvm.Cond.and given_1 narrow_1).before args0 about1 = true := by decide +kernel
theorem w_applies : (headSpec (Jvm.Cond.code x code maxLocals ret :: tables_1) room_1).applies x e0.platform about1 = true :=
  (Spec.applies_iff w_frames).mpr ⟨w_running, w_runnable, w_alone, w_named, w_hears, w_ripe, w_room, w_tables⟩
theorem atStart : AtStart classFile x code maxLocals ret World_1 tables_1 room_1 Calls_1 rest_1 Pre_1 launch0 p0 e0 about1 theMethod args0 below0 :=
  ⟨lists_1, trivial, launch0.admits_env _ _ _, launch0.least_env, fairChoices_fair.cas, fairChoices_fair.clock, w_frames, w_args, w_heap, w_applies, trivial, trivial, w_case⟩
end start1
theorem witness_1 : WitnessClaimed_1 := ⟨start1.p0, start1.e0, start1.about1, start1.theMethod, start1.args0, start1.below0, start1.atStart⟩
end Jvm.Pilot.@@N@@
