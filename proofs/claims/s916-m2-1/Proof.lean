import JvmDerived
import JvmDerived.Pilot.@@N@@Statement
import JvmDerived.Pilot.@@N@@Code
set_option linter.unusedVariables false
set_option linter.unusedSimpArgs false
namespace Jvm.Pilot.@@N@@.Kw
open Jvm Jvm.ClassFile Sem Op Lib Jvm.Free Jvm.Stand Jvm.LawKit Jvm.RoadKit Bundle
/-! ## a walk by weakest preconditions over the road kit's family: the state, the tables and the intern table are hidden; what is seen is the heap, the own cells W, the room used, pc, locals, stack -/
abbrev Mth := MethodName × ByteArray × Nat × Option FieldType
def Cx (M : Mth) (p : Program) (meth : Method) (c : Code) : Prop := p.tables.exec = Jvm.exec ∧ c.code = M.2.1 ∧ c.maxLocals = M.2.2.1 ∧ meth.sig.returnType = M.2.2.2 ∧ meth.locks = false ∧ meth.name = M.1.name
def Own (Z : State) (EL : List (String × Nat)) (vm : Vm) (h : Heap) (W : List Addr) : Prop := ∀ a ∈ W, Z.heap.size ≤ a ∧ a < h.size ∧ Safe Z EL vm h a
def Hid (l : Launch) (Z : State) (EL : List (String × Nat)) (M : Mth) (R : Room) (p : Program) (e : Env) (s : State) (m : MethodId) (args : Array Value) (below : List Frame) (meth : Method) (c : Code) (T : State) (vm0 : Vm) (h : Heap) (W : List Addr) (k n : Nat) : Prop :=
  ∃ locs k0, Stand p l e R (s.setVm vm0) m args below meth c T locs k n ∧ T.heap = h ∧ s.Since vm0 k0 ∧ k0 ≤ h.size ∧ Z.Warmed39 vm0 ∧ vm0.findClass M.1.cls = some m.cls ∧ CHr Z EL s.vm s.heap vm0 h ∧ Fr Z.heap.size locs ∧ Own Z EL vm0 h W ∧ k ≤ R.cells ∧ n ≤ R.slots ∧ Ext Z.heap h ∧ (EL = [] → s.WarmedH vm0) ∧ ∃ a0, EW Z a0 EL
def Done (Z : State) (EL : List (String × Nat)) (R : Room) (p : Program) (e : Env) (s : State) (below : List Frame) (S : State) (Q : Option Value → Heap → List Addr → Prop) : Prop :=
  ∃ s₂ v L Wo, Steps p.tables e below S s₂ ∧ s₂.status = .running ∧ Ended s₂ below (.returned v) ∧ Q v s₂.heap Wo ∧ Own Z EL s₂.vm s₂.heap Wo ∧ Fr Z.heap.size L ∧ CHr Z EL s.vm s.heap s₂.vm s₂.heap ∧ Ext Z.heap s₂.heap ∧ (EL = [] → s.WarmedH s₂.vm) ∧ ReturnedEndW s (.returned v) s₂ L R.cells R.slots
def Wx (l : Launch) (Z : State) (EL : List (String × Nat)) (M : Mth) (R : Room) (h : Heap) (W : List Addr) (k n pc : Nat) (Ls : Array Slot) (st : List Value) (Q : Option Value → Heap → List Addr → Prop) : Prop :=
  ∀ p e s m args below meth c, Cx M p meth c → ∀ T vm0, Hid l Z EL M R p e s m args below meth c T vm0 h W k n → Done Z EL R p e s below (T.setTop (mkF m pc Ls st)) Q
abbrev Wp (l : Launch) (Z : State) (EL : List (String × Nat)) (M : Mth) (R : Room) (h : Heap) (W : List Addr) (k n pc : Nat) (Ls : Array Slot) (st : List Value) (Q : Option Value → Heap → Prop) : Prop := Wx l Z EL M R h W k n pc Ls st (fun v h' _ => Q v h')
def CxW (ws : List Jvm.Cond) (l : Launch) (Z : State) (EL : List (String × Nat)) (M : Mth) (rm : Room) (as : Array Value) (h : Heap) (W : List Addr) (Q : Option Value → Heap → List Addr → Prop) : Prop :=
  MetFree l M.1 (head1 (Jvm.Cond.code M.1 M.2.1 M.2.2.1 M.2.2.2 :: ws) rm) (fun a U => a = as ∧ Z.Warmed39 U.vm ∧ U.heap = h ∧ CHv Z EL U.vm h ∧ Own Z EL U.vm h W ∧ Ext Z.heap h) (fun _ _ _ _ _ => True)
    (fun _ U o U' => ∃ v L Wo, o = .returned v ∧ Q v U'.heap Wo ∧ Own Z EL U'.vm U'.heap Wo ∧ Fr Z.heap.size L ∧ CHr Z EL U.vm U.heap U'.vm U'.heap ∧ Ext Z.heap U'.heap ∧ (EL = [] → U.WarmedH U'.vm) ∧ ReturnedEndW U o U' L rm.cells rm.slots)
abbrev CtW (ws : List Jvm.Cond) (l : Launch) (Z : State) (EL : List (String × Nat)) (M : Mth) (rm : Room) (as : Array Value) (h : Heap) (W : List Addr) (Q : Option Value → Heap → Prop) : Prop := CxW ws l Z EL M rm as h W (fun v h' _ => Q v h')
abbrev Ct := CtW []
abbrev Ct3 := CxW []
theorem Done.pre {Z : State} {EL : List (String × Nat)} {R : Room} {p : Program} {e : Env} {s : State} {below : List Frame} {S S' : State} {Q : Option Value → Heap → List Addr → Prop} (st : ∀ t, Steps p.tables e below S' t → Steps p.tables e below S t) (D : Done Z EL R p e s below S' Q) : Done Z EL R p e s below S Q := by
  obtain ⟨s₂, v, L, Wo, h1, r⟩ := D
  exact ⟨s₂, v, L, Wo, st _ h1, r⟩
section Steps
variable {l : Launch} {Z : State} {EL : List (String × Nat)} {M : Mth} {R : Room} {h : Heap} {W : List Addr} {k n pc : Nat} {Ls : Array Slot} {st : List Value} {Q : Option Value → Heap → List Addr → Prop} {a0 : Array Value}
/-! ### entering -/
theorem Own.nil {vm : Vm} : Own Z EL vm h [] := fun _ q => nomatch q
theorem Ct.of_wp {ws : List Jvm.Cond} {rm : Room} {as : Array Value} (hp : plainFor M.1 = true) (hEL : EW Z a0 EL) (hls : Jvm.Sym.laidSlots as.toList ++ List.replicate (M.2.2.1 - (Jvm.Sym.laidSlots as.toList).length) .unset = Ls.toList) (K : Wx l Z EL M rm h W 0 0 0 Ls [] Q) : CxW ws l Z EL M rm as h W Q := by
  refine MetFree.of_bodySF hp hisR ?_
  intro p e s m args below meth c s₁ Bd hml0 hP hK
  obtain ⟨rfl, hZ, hh, hC, hO, hX⟩ := hP
  have X0 : Stand p l e rm s m args below meth c s₁ [] 0 0 := Stand.of_body Bd
  have e0 : s₁.heap = h := by rw [← hh, Bd.state]; rfl
  obtain ⟨s₂, v, L, Wo, h1, h2, h3, h4, h5, h6, h7, h8⟩ := K p e s m args below meth c ⟨Bd.exec, Bd.bytes, hml0, Bd.returns, Bd.notSynchronized, (name_of_methodNamed Bd.named Bd.method).1⟩ s₁ s.vm
    ⟨[], 0, X0, e0, (State.WarmedH.refl s).since _, Nat.zero_le _, hZ, findClass_of_methodNamed Bd.named, by rw [hh]; exact CHr.refl hC, Fr.nil _, hO, Nat.zero_le _, Nat.zero_le _, hX, fun _ => State.WarmedH.refl s, a0, hEL⟩
  exact ⟨s₂, _, (Jvm.Free.XT.entry hls).trans h1, h2, h3, v, L, Wo, rfl, h4, h5, h6, h7, h8⟩
/-! ### plain steps -/
theorem Wp.pure {pc' : Nat} {Ls' : Array Slot} {st' : List Value} (hs : ∀ {tb : Tables} [Ours tb] {e : Env} {below : List Frame} {T : State} {m : MethodId} {c : Code} {target : State}, At T m c below → tb.exec = Jvm.exec → c.code = M.2.1 → Steps tb e below (T.setTop (mkF m pc' Ls' st')) target → Steps tb e below (T.setTop (mkF m pc Ls st)) target)
    (K : Wx l Z EL M R h W k n pc' Ls' st' Q) : Wx l Z EL M R h W k n pc Ls st Q := by
  intro p e s m args below meth c hc T vm0 H
  obtain ⟨locs, k0, X, r⟩ := id H
  exact (K p e s m args below meth c hc T vm0 H).pre fun t q => hs X.here hc.1 hc.2.1 q
def ush (x y : Int32) : Int32 := (x.toUInt32 >>> (y &&& 31).toUInt32).toInt32
def c16 (x : Int32) : Int32 := x.toUInt32.toUInt16.toUInt32.toInt32
def lo8 (x : Int32) : Int32 := x.toInt8.toInt32
def nx (len need pc : Nat) (Ls : Array Slot) (st : List Value) : Option (Nat × Array Slot × List Value) := if len = need then some (pc + need, Ls, st) else none
def ld1 (Ls : Array Slot) (i : Nat) : Option Value := match Ls[i]? with | some (.val v) => some v | _ => none
def isI : Value → Bool | .int _ => true | _ => false
def isL : Value → Bool | .long _ => true | _ => false
def ldv (P : Value → Bool) (need len pc : Nat) (Ls : Array Slot) (st : List Value) (i : Nat) : Option (Nat × Array Slot × List Value) := match ld1 Ls i with | some v => if P v = true then nx len need pc Ls (v :: st) else none | none => none
def stv (P : Value → Bool) (need len pc : Nat) (Ls : Array Slot) (st : List Value) (i : Nat) : Option (Nat × Array Slot × List Value) := match st with | v :: r => (if P v = true then (match storeLocals Ls i v with | some l' => nx len need pc l' r | none => none) else none) | [] => none
def i2 (f : Int32 → Int32 → Int32) (len pc : Nat) (Ls : Array Slot) (st : List Value) : Option (Nat × Array Slot × List Value) := match st with | .int y :: .int x :: r => nx len 1 pc Ls (.int (f x y) :: r) | _ => none
def l2 (f : Int64 → Int64 → Int64) (len pc : Nat) (Ls : Array Slot) (st : List Value) : Option (Nat × Array Slot × List Value) := match st with | .long y :: .long x :: r => nx len 1 pc Ls (.long (f x y) :: r) | _ => none
def li2 (f : Int64 → Int32 → Int64) (len pc : Nat) (Ls : Array Slot) (st : List Value) : Option (Nat × Array Slot × List Value) := match st with | .int y :: .long x :: r => nx len 1 pc Ls (.long (f x y) :: r) | _ => none
def i1 (f : Int32 → Value) (len pc : Nat) (Ls : Array Slot) (st : List Value) : Option (Nat × Array Slot × List Value) := match st with | .int x :: r => nx len 1 pc Ls (f x :: r) | _ => none
def l1 (f : Int64 → Value) (len pc : Nat) (Ls : Array Slot) (st : List Value) : Option (Nat × Array Slot × List Value) := match st with | .long x :: r => nx len 1 pc Ls (f x :: r) | _ => none
def stepS (i : Instr) (len pc : Nat) (Ls : Array Slot) (st : List Value) : Option (Nat × Array Slot × List Value) :=
  match i with
  | .aload_n k => ldv Value.isRef 1 len pc Ls st k.val
  | .aload k => ldv Value.isRef 2 len pc Ls st k
  | .iload_n k => ldv isI 1 len pc Ls st k.val
  | .iload k => ldv isI 2 len pc Ls st k
  | .lload_n k => ldv isL 1 len pc Ls st k.val
  | .lload k => ldv isL 2 len pc Ls st k
  | .astore_n k => stv Value.isRef 1 len pc Ls st k.val
  | .astore k => stv Value.isRef 2 len pc Ls st k
  | .istore_n k => stv isI 1 len pc Ls st k.val
  | .istore k => stv isI 2 len pc Ls st k
  | .lstore_n k => stv isL 1 len pc Ls st k.val
  | .lstore k => stv isL 2 len pc Ls st k
  | .iconst i => nx len 1 pc Ls (.int (Int32.ofInt i) :: st)
  | .lconst k => nx len 1 pc Ls (.long (Int64.ofNat k) :: st)
  | .bipush i => nx len 2 pc Ls (.int (Int8.ofInt i).toInt32 :: st)
  | .sipush i => nx len 3 pc Ls (.int (Int16.ofInt i).toInt32 :: st)
  | .aconst_null => nx len 1 pc Ls (.null :: st)
  | .iadd => i2 (· + ·) len pc Ls st
  | .isub => i2 (· - ·) len pc Ls st
  | .imul => i2 (· * ·) len pc Ls st
  | .iand => i2 (· &&& ·) len pc Ls st
  | .ior => i2 (· ||| ·) len pc Ls st
  | .ixor => i2 (· ^^^ ·) len pc Ls st
  | .ishl => i2 (fun x y => x <<< (y &&& 31)) len pc Ls st
  | .ishr => i2 (fun x y => x >>> (y &&& 31)) len pc Ls st
  | .iushr => i2 ush len pc Ls st
  | .ladd => l2 (· + ·) len pc Ls st
  | .lsub => l2 (· - ·) len pc Ls st
  | .lmul => l2 (· * ·) len pc Ls st
  | .land => l2 (· &&& ·) len pc Ls st
  | .lor => l2 (· ||| ·) len pc Ls st
  | .lshl => li2 (fun x y => x <<< (y.toInt64 &&& 63)) len pc Ls st
  | .lushr => li2 (fun x y => Jvm.Free.XT.ushrL x y) len pc Ls st
  | .lcmp => (match st with | .long y :: .long x :: r => nx len 1 pc Ls (.int (Jvm.Free.XT.cmpL x y) :: r) | _ => none)
  | .ineg => i1 (fun x => .int (-x)) len pc Ls st
  | .lneg => l1 (fun x => .long (-x)) len pc Ls st
  | .i2l => i1 (fun x => .long x.toInt64) len pc Ls st
  | .l2i => l1 (fun x => .int x.toInt32) len pc Ls st
  | .i2b => i1 (fun x => .int (lo8 x)) len pc Ls st
  | .i2c => i1 (fun x => .int (c16 x)) len pc Ls st
  | .i2s => i1 (fun x => .int x.toInt16.toInt32) len pc Ls st
  | .dup => (match st with | x :: r => (if x.category = 1 then nx len 1 pc Ls (x :: x :: r) else none) | _ => none)
  | .dup_x1 => (match st with | x :: y :: r => (if x.category = 1 ∧ y.category = 1 then nx len 1 pc Ls (x :: y :: x :: r) else none) | _ => none)
  | .dup2 => (match st with | x :: y :: r => (if x.category = 1 ∧ y.category = 1 then nx len 1 pc Ls (x :: y :: x :: y :: r) else none) | _ => none)
  | .pop => (match st with | x :: r => (if x.category = 1 then nx len 1 pc Ls r else none) | _ => none)
  | .iinc k cst => (match ld1 Ls k with | some (.int x) => (match storeLocals Ls k (.int (x + Int32.ofInt cst)) with | some l' => nx len 3 pc l' st | none => none) | _ => none)
  | .goto o => (if len = 3 ∧ 0 ≤ (pc : Int) + o then some (((pc : Int) + o).toNat, Ls, st) else none)
  | _ => none
theorem nx_inv {len need pc pc' : Nat} {Ls Ls' : Array Slot} {st st' : List Value} (h : nx len need pc Ls st = some (pc', Ls', st')) : len = need ∧ pc + need = pc' ∧ Ls = Ls' ∧ st = st' := by
  unfold nx at h; split at h
  · rename_i q; simp only [Option.some.injEq, Prod.mk.injEq] at h; exact ⟨q, h.1, h.2.1, h.2.2⟩
  · cases h
theorem ld1_inv {Ls : Array Slot} {i : Nat} {v : Value} (h : ld1 Ls i = some v) : Ls[i]? = some (.val v) := by
  unfold ld1 at h; split at h
  · rename_i q; cases h; exact q
  · cases h
theorem ldv_inv {P : Value → Bool} {need len pc pc' i : Nat} {Ls Ls' : Array Slot} {st st' : List Value} (h : ldv P need len pc Ls st i = some (pc', Ls', st')) : ∃ v, Ls[i]? = some (.val v) ∧ P v = true ∧ len = need ∧ pc + need = pc' ∧ Ls = Ls' ∧ v :: st = st' := by
  unfold ldv at h; split at h
  · rename_i v q; split at h
    · rename_i hp; exact ⟨v, ld1_inv q, hp, nx_inv h⟩
    · cases h
  · cases h
theorem stv_inv {P : Value → Bool} {need len pc pc' i : Nat} {Ls Ls' : Array Slot} {st st' : List Value} (h : stv P need len pc Ls st i = some (pc', Ls', st')) : ∃ v, st = v :: st' ∧ P v = true ∧ storeLocals Ls i v = some Ls' ∧ len = need ∧ pc + need = pc' := by
  unfold stv at h; split at h
  · split at h
    · rename_i hp; split at h
      · rename_i q; obtain ⟨a, b, rfl, rfl⟩ := nx_inv h; exact ⟨_, rfl, hp, q, a, b⟩
      · cases h
    · cases h
  · cases h
theorem i2_inv {f : Int32 → Int32 → Int32} {len pc pc' : Nat} {Ls Ls' : Array Slot} {st st' : List Value} (h : i2 f len pc Ls st = some (pc', Ls', st')) : ∃ x y r, st = .int y :: .int x :: r ∧ len = 1 ∧ pc + 1 = pc' ∧ Ls = Ls' ∧ .int (f x y) :: r = st' := by
  unfold i2 at h; split at h
  · exact ⟨_, _, _, rfl, nx_inv h⟩
  · cases h
theorem l2_inv {f : Int64 → Int64 → Int64} {len pc pc' : Nat} {Ls Ls' : Array Slot} {st st' : List Value} (h : l2 f len pc Ls st = some (pc', Ls', st')) : ∃ x y r, st = .long y :: .long x :: r ∧ len = 1 ∧ pc + 1 = pc' ∧ Ls = Ls' ∧ .long (f x y) :: r = st' := by
  unfold l2 at h; split at h
  · exact ⟨_, _, _, rfl, nx_inv h⟩
  · cases h
theorem li2_inv {f : Int64 → Int32 → Int64} {len pc pc' : Nat} {Ls Ls' : Array Slot} {st st' : List Value} (h : li2 f len pc Ls st = some (pc', Ls', st')) : ∃ x y r, st = .int y :: .long x :: r ∧ len = 1 ∧ pc + 1 = pc' ∧ Ls = Ls' ∧ .long (f x y) :: r = st' := by
  unfold li2 at h; split at h
  · exact ⟨_, _, _, rfl, nx_inv h⟩
  · cases h
theorem i1_inv {f : Int32 → Value} {len pc pc' : Nat} {Ls Ls' : Array Slot} {st st' : List Value} (h : i1 f len pc Ls st = some (pc', Ls', st')) : ∃ x r, st = .int x :: r ∧ len = 1 ∧ pc + 1 = pc' ∧ Ls = Ls' ∧ f x :: r = st' := by
  unfold i1 at h; split at h
  · exact ⟨_, _, rfl, nx_inv h⟩
  · cases h
theorem l1_inv {f : Int64 → Value} {len pc pc' : Nat} {Ls Ls' : Array Slot} {st st' : List Value} (h : l1 f len pc Ls st = some (pc', Ls', st')) : ∃ x r, st = .long x :: r ∧ len = 1 ∧ pc + 1 = pc' ∧ Ls = Ls' ∧ f x :: r = st' := by
  unfold l1 at h; split at h
  · exact ⟨_, _, rfl, nx_inv h⟩
  · cases h
theorem isI_inv {v : Value} (h : isI v = true) : ∃ x, v = .int x := by cases v <;> simp [isI] at h ⊢
theorem isL_inv {v : Value} (h : isL v = true) : ∃ x, v = .long x := by cases v <;> simp [isL] at h ⊢
theorem step_sound {tb : Tables} [Ours tb] {e : Env} {below : List Frame} {T : State} {m : MethodId} {c : Code} {target : State} (hA : At T m c below) (hx : tb.exec = Jvm.exec) {i : Instr} {len pc pc' : Nat} {Ls Ls' : Array Slot} {st st' : List Value} (hd : decode c.code pc = .ok (i, len)) (hs : stepS i len pc Ls st = some (pc', Ls', st'))
    (hr : Steps tb e below (T.setTop (mkF m pc' Ls' st')) target) : Steps tb e below (T.setTop (mkF m pc Ls st)) target := by
  cases i
  case aload_n k => obtain ⟨v, h1, h2, rfl, rfl, rfl, rfl⟩ := ldv_inv hs; exact XS.aloadN hA hx rfl hd h1 h2 hr
  case aload k => obtain ⟨v, h1, h2, rfl, rfl, rfl, rfl⟩ := ldv_inv hs; exact XS.aload hA hx rfl hd h1 h2 hr
  case iload_n k => obtain ⟨v, h1, h2, rfl, rfl, rfl, rfl⟩ := ldv_inv hs; obtain ⟨x, rfl⟩ := isI_inv h2; exact XS.iloadN hA hx rfl hd h1 hr
  case iload k => obtain ⟨v, h1, h2, rfl, rfl, rfl, rfl⟩ := ldv_inv hs; obtain ⟨x, rfl⟩ := isI_inv h2; exact XS.iload hA hx rfl hd h1 hr
  case lload_n k => obtain ⟨v, h1, h2, rfl, rfl, rfl, rfl⟩ := ldv_inv hs; obtain ⟨x, rfl⟩ := isL_inv h2; exact XT.lloadN hA hx rfl hd h1 hr
  case lload k => obtain ⟨v, h1, h2, rfl, rfl, rfl, rfl⟩ := ldv_inv hs; obtain ⟨x, rfl⟩ := isL_inv h2; exact XT.lload hA hx rfl hd h1 hr
  case astore_n k => obtain ⟨v, rfl, h2, h3, rfl, rfl⟩ := stv_inv hs; exact XS.astoreN hA hx rfl hd rfl h2 h3 hr
  case astore k => obtain ⟨v, rfl, h2, h3, rfl, rfl⟩ := stv_inv hs; exact XS.astore hA hx rfl hd rfl h2 h3 hr
  case istore_n k => obtain ⟨v, rfl, h2, h3, rfl, rfl⟩ := stv_inv hs; obtain ⟨x, rfl⟩ := isI_inv h2; exact XS.istoreN hA hx rfl hd rfl h3 hr
  case istore k => obtain ⟨v, rfl, h2, h3, rfl, rfl⟩ := stv_inv hs; obtain ⟨x, rfl⟩ := isI_inv h2; exact XS.istore hA hx rfl hd rfl h3 hr
  case lstore_n k => obtain ⟨v, rfl, h2, h3, rfl, rfl⟩ := stv_inv hs; obtain ⟨x, rfl⟩ := isL_inv h2; exact XT.lstoreN hA hx rfl hd rfl h3 hr
  case lstore k => obtain ⟨v, rfl, h2, h3, rfl, rfl⟩ := stv_inv hs; obtain ⟨x, rfl⟩ := isL_inv h2; exact XT.lstore hA hx rfl hd rfl h3 hr
  case iconst i => obtain ⟨rfl, rfl, rfl, rfl⟩ := nx_inv hs; exact XS.iconst hA hx rfl hd hr
  case lconst i => obtain ⟨rfl, rfl, rfl, rfl⟩ := nx_inv hs; exact XT.lconst hA hx rfl hd hr
  case bipush i => obtain ⟨rfl, rfl, rfl, rfl⟩ := nx_inv hs; exact XS.bipush hA hx rfl hd hr
  case sipush i => obtain ⟨rfl, rfl, rfl, rfl⟩ := nx_inv hs; exact XS.sipush hA hx rfl hd hr
  case aconst_null => obtain ⟨rfl, rfl, rfl, rfl⟩ := nx_inv hs; exact XS.aconstNull hA hx rfl hd hr
  case iadd => obtain ⟨x, y, r, rfl, rfl, rfl, rfl, rfl⟩ := i2_inv hs; exact XS.iadd hA hx rfl hd rfl hr
  case isub => obtain ⟨x, y, r, rfl, rfl, rfl, rfl, rfl⟩ := i2_inv hs; exact XS.isub hA hx rfl hd rfl hr
  case imul => obtain ⟨x, y, r, rfl, rfl, rfl, rfl, rfl⟩ := i2_inv hs; exact XS.imul hA hx rfl hd rfl hr
  case iand => obtain ⟨x, y, r, rfl, rfl, rfl, rfl, rfl⟩ := i2_inv hs; exact XS.iand hA hx rfl hd rfl hr
  case ior => obtain ⟨x, y, r, rfl, rfl, rfl, rfl, rfl⟩ := i2_inv hs; exact XT.ior hA hx rfl hd rfl hr
  case ixor => obtain ⟨x, y, r, rfl, rfl, rfl, rfl, rfl⟩ := i2_inv hs; exact XT.ixor hA hx rfl hd rfl hr
  case ishl => obtain ⟨x, y, r, rfl, rfl, rfl, rfl, rfl⟩ := i2_inv hs; exact XT.ishl hA hx rfl hd rfl hr
  case ishr => obtain ⟨x, y, r, rfl, rfl, rfl, rfl, rfl⟩ := i2_inv hs; exact XT.ishr hA hx rfl hd rfl hr
  case iushr => obtain ⟨x, y, r, rfl, rfl, rfl, rfl, rfl⟩ := i2_inv hs; exact XT.iushr hA hx rfl hd rfl hr
  case ladd => obtain ⟨x, y, r, rfl, rfl, rfl, rfl, rfl⟩ := l2_inv hs; exact XT.ladd hA hx rfl hd rfl hr
  case lsub => obtain ⟨x, y, r, rfl, rfl, rfl, rfl, rfl⟩ := l2_inv hs; exact XT.lsub hA hx rfl hd rfl hr
  case lmul => obtain ⟨x, y, r, rfl, rfl, rfl, rfl, rfl⟩ := l2_inv hs; exact XT.lmul hA hx rfl hd rfl hr
  case land => obtain ⟨x, y, r, rfl, rfl, rfl, rfl, rfl⟩ := l2_inv hs; exact XT.land hA hx rfl hd rfl hr
  case lor => obtain ⟨x, y, r, rfl, rfl, rfl, rfl, rfl⟩ := l2_inv hs; exact XT.lor hA hx rfl hd rfl hr
  case lshl => obtain ⟨x, y, r, rfl, rfl, rfl, rfl, rfl⟩ := li2_inv hs; exact XT.lshl hA hx rfl hd rfl hr
  case lushr => obtain ⟨x, y, r, rfl, rfl, rfl, rfl, rfl⟩ := li2_inv hs; exact XT.lushr hA hx rfl hd rfl hr
  case lcmp =>
    simp only [stepS] at hs; split at hs
    · obtain ⟨rfl, rfl, rfl, rfl⟩ := nx_inv hs; exact XT.lcmp hA hx rfl hd rfl hr
    · cases hs
  case ineg => obtain ⟨x, r, rfl, rfl, rfl, rfl, rfl⟩ := i1_inv hs; exact XS.ineg hA hx rfl hd rfl hr
  case lneg => obtain ⟨x, r, rfl, rfl, rfl, rfl, rfl⟩ := l1_inv hs; exact XT.lneg hA hx rfl hd rfl hr
  case i2l => obtain ⟨x, r, rfl, rfl, rfl, rfl, rfl⟩ := i1_inv hs; exact XT.i2l hA hx rfl hd rfl hr
  case l2i => obtain ⟨x, r, rfl, rfl, rfl, rfl, rfl⟩ := l1_inv hs; exact XT.l2i hA hx rfl hd rfl hr
  case i2b => obtain ⟨x, r, rfl, rfl, rfl, rfl, rfl⟩ := i1_inv hs; exact XT.i2b hA hx rfl hd rfl hr
  case i2c => obtain ⟨x, r, rfl, rfl, rfl, rfl, rfl⟩ := i1_inv hs; exact XT.i2c hA hx rfl hd rfl hr
  case i2s => obtain ⟨x, r, rfl, rfl, rfl, rfl, rfl⟩ := i1_inv hs; exact XT.i2s hA hx rfl hd rfl hr
  case dup =>
    simp only [stepS] at hs; split at hs
    · split at hs
      · rename_i q; obtain ⟨rfl, rfl, rfl, rfl⟩ := nx_inv hs; exact XS.dup hA hx rfl hd rfl q hr
      · cases hs
    · cases hs
  case dup_x1 =>
    simp only [stepS] at hs; split at hs
    · split at hs
      · rename_i q; obtain ⟨rfl, rfl, rfl, rfl⟩ := nx_inv hs; exact XT.dupX1 hA hx rfl hd rfl q.1 q.2 hr
      · cases hs
    · cases hs
  case dup2 =>
    simp only [stepS] at hs; split at hs
    · split at hs
      · rename_i q; obtain ⟨rfl, rfl, rfl, rfl⟩ := nx_inv hs; exact XT.dup2 hA hx rfl hd rfl q.1 q.2 hr
      · cases hs
    · cases hs
  case pop =>
    simp only [stepS] at hs; split at hs
    · split at hs
      · rename_i q; obtain ⟨rfl, rfl, rfl, rfl⟩ := nx_inv hs; exact XT.pop hA hx rfl hd rfl q hr
      · cases hs
    · cases hs
  case iinc k cst =>
    simp only [stepS] at hs; split at hs
    · rename_i q; split at hs
      · rename_i q2; obtain ⟨rfl, rfl, rfl, rfl⟩ := nx_inv hs; exact XS.iinc hA hx rfl hd (ld1_inv q) q2 hr
      · cases hs
    · cases hs
  case goto o =>
    simp only [stepS] at hs; split at hs
    · rename_i q; simp only [Option.some.injEq, Prod.mk.injEq] at hs; obtain ⟨rfl, rfl, rfl⟩ := hs; obtain ⟨rfl, q⟩ := q; exact XS.goto hA hx rfl (pc0 := pc) rfl hd q rfl hr
    · cases hs
  all_goals (exfalso; simp [stepS] at hs)
/-- the instructions of a body, told once -/
abbrev Tab := List (Nat × Instr × Nat)
def TabOk (code : ByteArray) (tb : Tab) : Prop := ∀ x ∈ tb, decode code x.1 = .ok x.2
def fnd (tb : Tab) (pc : Nat) : Option (Instr × Nat) := match tb with | [] => none | x :: r => if x.1 = pc then some x.2 else fnd r pc
theorem fnd_ok {code : ByteArray} : ∀ {tb : Tab}, TabOk code tb → ∀ {pc : Nat} {x : Instr × Nat}, fnd tb pc = some x → decode code pc = .ok x
  | [], _, _, _, h => by cases h
  | y :: r, ok, pc, x, h => by
    unfold fnd at h; split at h
    · rename_i q; cases h; rw [← q]; exact ok y (List.mem_cons_self ..)
    · exact fnd_ok (fun z hz => ok z (List.mem_cons_of_mem _ hz)) h
def runS (tb : Tab) : Nat → Nat → Array Slot → List Value → Option (Nat × Array Slot × List Value)
  | 0, pc, Ls, st => some (pc, Ls, st)
  | f + 1, pc, Ls, st => match fnd tb pc with
    | some (i, len) => (match stepS i len pc Ls st with | some (pc', Ls', st') => runS tb f pc' Ls' st' | none => none)
    | none => none
theorem run_sound {tbl : Tab} {tb : Tables} [Ours tb] {e : Env} {below : List Frame} {T : State} {m : MethodId} {c : Code} {target : State} (ok : TabOk c.code tbl) (hA : At T m c below) (hx : tb.exec = Jvm.exec) : ∀ (f : Nat) {pc pc' : Nat} {Ls Ls' : Array Slot} {st st' : List Value}, runS tbl f pc Ls st = some (pc', Ls', st') →
    Steps tb e below (T.setTop (mkF m pc' Ls' st')) target → Steps tb e below (T.setTop (mkF m pc Ls st)) target
  | 0, pc, pc', Ls, Ls', st, st', h, hr => by
    simp only [runS, Option.some.injEq, Prod.mk.injEq] at h; obtain ⟨rfl, rfl, rfl⟩ := h; exact hr
  | f + 1, pc, pc', Ls, Ls', st, st', h, hr => by
    unfold runS at h; split at h
    · rename_i i len q; split at h
      · rename_i q2; exact step_sound hA hx (fnd_ok ok q) q2 (run_sound ok hA hx f h hr)
      · cases h
    · cases h
theorem Wp.run {tb : Tab} (ok : TabOk M.2.1 tb) (f : Nat) (pc' : Nat) (Ls' : Array Slot) (st' : List Value) (hs : runS tb f pc Ls st = some (pc', Ls', st')) (K : Wx l Z EL M R h W k n pc' Ls' st' Q) : Wx l Z EL M R h W k n pc Ls st Q :=
  Wp.pure (fun hA hx hb hr => run_sound (by rw [hb]; exact ok) hA hx f hs hr) K
theorem Wp.at (Ls' : Array Slot) (st' : List Value) (q : Ls = Ls' ∧ st = st') (K : Wx l Z EL M R h W k n pc Ls' st' Q) : Wx l Z EL M R h W k n pc Ls st Q := by
  obtain ⟨rfl, rfl⟩ := q; exact K
/-- a slot that a value of one word may be stored over -/
def Sl1 (o : Slot) : Prop := o = .unset ∨ ∃ w, o = .val w ∧ w.category = 1
theorem Sl1.unset : Sl1 .unset := Or.inl rfl
theorem Sl1.int (x : Int32) : Sl1 (.val (.int x)) := Or.inr ⟨_, rfl, rfl⟩
theorem Sl1.ref (x : Addr) : Sl1 (.val (.ref x)) := Or.inr ⟨_, rfl, rfl⟩
theorem Wp.istoreS {tb : Tab} (ok : TabOk M.2.1 tb) {i : Nat} {x : Int32} {rest : List Value} {o : Slot} (ho : Sl1 o) (hf : fnd tb pc = some (.istore i, 2)) (hst : st = .int x :: rest) (hold : Ls[i]? = some o) (K : Wx l Z EL M R h W k n (pc + 2) (Ls.setIfInBounds i (.val (.int x))) rest Q) : Wx l Z EL M R h W k n pc Ls st Q := by
  subst hst
  exact Wp.pure (fun hA hx hb hr => XS.istoreS hA hx rfl (by rw [hb]; exact fnd_ok ok hf) rfl hold ho hr) K
theorem Wp.istoreNS {tb : Tab} (ok : TabOk M.2.1 tb) {i : Fin 4} {x : Int32} {rest : List Value} {o : Slot} (ho : Sl1 o) (hf : fnd tb pc = some (.istore_n i, 1)) (hst : st = .int x :: rest) (hold : Ls[i.val]? = some o) (K : Wx l Z EL M R h W k n (pc + 1) (Ls.setIfInBounds i.val (.val (.int x))) rest Q) : Wx l Z EL M R h W k n pc Ls st Q := by
  subst hst
  exact Wp.pure (fun hA hx hb hr => XS.istoreNS hA hx rfl (by rw [hb]; exact fnd_ok ok hf) rfl hold ho hr) K
theorem Wp.astoreS {tb : Tab} (ok : TabOk M.2.1 tb) {i : Nat} {x : Addr} {rest : List Value} {o : Slot} (ho : Sl1 o) (hf : fnd tb pc = some (.astore i, 2)) (hst : st = .ref x :: rest) (hold : Ls[i]? = some o) (K : Wx l Z EL M R h W k n (pc + 2) (Ls.setIfInBounds i (.val (.ref x))) rest Q) : Wx l Z EL M R h W k n pc Ls st Q := by
  subst hst
  exact Wp.pure (fun hA hx hb hr => XS.astoreS hA hx rfl (by rw [hb]; exact fnd_ok ok hf) rfl rfl rfl hold ho hr) K
end Steps
end Jvm.Pilot.@@N@@.Kw
namespace Jvm.Pilot.@@N@@.Kw
open Jvm Jvm.ClassFile Sem Op Lib Jvm.Free Jvm.Stand Jvm.LawKit Jvm.RoadKit Bundle
section Rules
variable {l : Launch} {Z : State} {EL : List (String × Nat)} {M : Mth} {R : Room} {h : Heap} {W : List Addr} {k n pc : Nat} {Ls : Array Slot} {st : List Value} {Q : Option Value → Heap → List Addr → Prop} {a0 : Array Value} {tb : Tab}
theorem ext_trans {h1 h2 h3 : Heap} (E : Ext h1 h2) (F : Ext h2 h3) : Ext h1 h3 := ⟨Nat.le_trans E.1 F.1, fun a c q => F.2 a c (E.2 a c q)⟩
theorem ext_refl (h : Heap) : Ext h h := ⟨Nat.le_refl _, fun _ _ q => q⟩
theorem ext_keep {h1 h2 h3 : Heap} {ws : List Addr} (E : Ext h1 h2) (K : Keep h2 h3 ws) (q : ∀ x ∈ ws, h1.size ≤ x) : Ext h1 h3 := ⟨Nat.le_trans E.1 K.1, fun a c r => K.2.1 a c (E.2 a c r) fun z => absurd (Array.getElem?_eq_some_iff.mp r).1 (Nat.not_lt.mpr (q a z))⟩
theorem ext_wr {h1 h2 h3 : Heap} {a : Addr} {sl : Nat} {v : Value} (E : Ext h1 h2) (K : Wr h2 h3 a sl v) (q : h1.size ≤ a) : Ext h1 h3 := ext_keep E (Keep.of_wr K) (allS q all0)
theorem Own.later {vm vm1 : Vm} {h h' : Heap} (C : CHr Z EL vm h vm1 h') (O : Own Z EL vm h W) : Own Z EL vm1 h' W := fun a ha => by
  obtain ⟨q1, q2, q3⟩ := O a ha
  exact ⟨q1, Nat.lt_of_lt_of_le q2 C.2.1, C.safe q2 q3⟩
theorem Wp.old (K : Ext Z.heap h → Wx l Z EL M R h W k n pc Ls st Q) : Wx l Z EL M R h W k n pc Ls st Q := by
  intro p e s m args below meth c hc T vm0 H
  obtain ⟨locs, k0, X, eT, hS, hk, hZ, hown, hC, hN, hO, q1, q2, hX, hWH, hEL⟩ := id H
  exact K hX p e s m args below meth c hc T vm0 H
theorem Own.app {vm : Vm} {W W' : List Addr} (A : Own Z EL vm h W) (B : Own Z EL vm h W') : Own Z EL vm h (W ++ W') := fun a ha => (List.mem_append.mp ha).elim (A a) (B a)
theorem Wp.up {k' n' : Nat} {W' : List Addr} (hk : k ≤ k') (hn : n ≤ n') (hk' : k' ≤ R.cells) (hn' : n' ≤ R.slots) (hW : ∀ a ∈ W', a ∈ W) (K : Wx l Z EL M R h W' k' n' pc Ls st Q) : Wx l Z EL M R h W k n pc Ls st Q := by
  intro p e s m args below meth c hc T vm0 H
  obtain ⟨locs, k0, X, eT, hS, hk, hZ, hown, hC, hN, hO, q1, q2, r⟩ := H
  exact K p e s m args below meth c hc T vm0 ⟨locs, k0, X.mono (by omega) (by omega), eT, hS, hk, hZ, hown, hC, hN, fun a ha => hO a (hW a ha), hk', hn', r⟩
theorem Wp.conseq {Q' : Option Value → Heap → List Addr → Prop} (K : Wx l Z EL M R h W k n pc Ls st Q') (i : ∀ v h' Wo, Q' v h' Wo → Q v h' Wo) : Wx l Z EL M R h W k n pc Ls st Q := by
  intro p e s m args below meth c hc T vm0 H
  obtain ⟨s₂, v, L, Wo, h1, h2, h3, h4, r⟩ := K p e s m args below meth c hc T vm0 H
  exact ⟨s₂, v, L, Wo, h1, h2, h3, i _ _ _ h4, r⟩
theorem Ct.conseq {rm : Room} {as : Array Value} {Q Q' : Option Value → Heap → Prop} (K : Ct l Z EL M rm as h W Q') (i : ∀ v h', Q' v h' → Q v h') : Ct l Z EL M rm as h W Q := by
  intro p e ha hc hk s m args below hf happ hP hK
  obtain ⟨nn, o, q1, q2, q3, v, L, Wo, q4, q5, r⟩ := K p e ha hc hk s m args below hf happ hP hK
  exact ⟨nn, o, q1, q2, q3, v, L, Wo, q4, i _ _ q5, r⟩
/-! ### branches -/
def cdP : ClassFile.Cond → Int32 → Int32 → Prop
  | .eq, x, y => x = y | .ne, x, y => ¬ x = y | .lt, x, y => x < y | .ge, x, y => ¬ x < y | .gt, x, y => y < x | .le, x, y => ¬ y < x
def cdN : ClassFile.Cond → Int32 → Int32 → Prop
  | .eq, x, y => ¬ x = y | .ne, x, y => x = y | .lt, x, y => ¬ x < y | .ge, x, y => x < y | .gt, x, y => ¬ y < x | .le, x, y => y < x
theorem cd_em (cd : ClassFile.Cond) (x y : Int32) : cdP cd x y ∨ cdN cd x y := by cases cd <;> simp only [cdP, cdN] <;> first | exact Decidable.em _ | exact (Decidable.em _).symm
theorem cdP_t {cd : ClassFile.Cond} {x y : Int32} (q : cdP cd x y) : if_icmp.holds cd x y = true := by
  cases cd
  · exact XT.ii_eq_t q
  · exact XT.ii_ne_t q
  · exact XT.ii_lt_t q
  · exact XT.ii_ge_t q
  · exact XT.ii_gt_t q
  · exact XT.ii_le_t q
theorem cdN_f {cd : ClassFile.Cond} {x y : Int32} (q : cdN cd x y) : if_icmp.holds cd x y = false := by
  cases cd
  · exact XT.ii_eq_f q
  · exact XT.ii_ne_f q
  · exact XT.ii_lt_f q
  · exact XT.ii_ge_f q
  · exact XT.ii_gt_f q
  · exact XT.ii_le_f q
theorem cd0_t {cd : ClassFile.Cond} {x : Int32} (q : cdP cd x 0) : ifCond.holds cd x = true := by
  cases cd
  · exact XT.i0_eq_t q
  · exact XT.i0_ne_t q
  · exact XT.i0_lt_t q
  · exact XT.i0_ge_t q
  · exact XT.i0_gt_t q
  · exact XT.i0_le_t q
theorem cd0_f {cd : ClassFile.Cond} {x : Int32} (q : cdN cd x 0) : ifCond.holds cd x = false := by
  cases cd
  · exact XT.i0_eq_f q
  · exact XT.i0_ne_f q
  · exact XT.i0_lt_f q
  · exact XT.i0_ge_f q
  · exact XT.i0_gt_f q
  · exact XT.i0_le_f q
theorem Wp.icmpT (ok : TabOk M.2.1 tb) {cd : ClassFile.Cond} {o : Int} {x y : Int32} {rest : List Value} (pc' : Nat) (hf : fnd tb pc = some (.if_icmp cd o, 3)) (hst : st = .int y :: .int x :: rest) (hc : cdP cd x y) (ho : 0 ≤ (pc : Int) + o) (hp : ((pc : Int) + o).toNat = pc') (K : Wx l Z EL M R h W k n pc' Ls rest Q) : Wx l Z EL M R h W k n pc Ls st Q := by
  subst hst
  exact Wp.pure (fun hA hx hb hr => XS.icmpYes hA hx rfl (pc0 := pc) rfl (by rw [hb]; exact fnd_ok ok hf) rfl (cdP_t hc) ho hp hr) K
theorem Wp.icmpF (ok : TabOk M.2.1 tb) {cd : ClassFile.Cond} {o : Int} {x y : Int32} {rest : List Value} (hf : fnd tb pc = some (.if_icmp cd o, 3)) (hst : st = .int y :: .int x :: rest) (hc : cdN cd x y) (K : Wx l Z EL M R h W k n (pc + 3) Ls rest Q) : Wx l Z EL M R h W k n pc Ls st Q := by
  subst hst
  exact Wp.pure (fun hA hx hb hr => XS.icmpNo hA hx rfl (by rw [hb]; exact fnd_ok ok hf) rfl (cdN_f hc) hr) K
theorem Wp.icmp (ok : TabOk M.2.1 tb) {cd : ClassFile.Cond} {o : Int} {x y : Int32} {rest : List Value} (pc' : Nat) (hf : fnd tb pc = some (.if_icmp cd o, 3)) (hst : st = .int y :: .int x :: rest) (ho : 0 ≤ (pc : Int) + o) (hp : ((pc : Int) + o).toNat = pc') (K1 : cdP cd x y → Wx l Z EL M R h W k n pc' Ls rest Q) (K2 : cdN cd x y → Wx l Z EL M R h W k n (pc + 3) Ls rest Q) : Wx l Z EL M R h W k n pc Ls st Q :=
  (cd_em cd x y).elim (fun q => Wp.icmpT ok pc' hf hst q ho hp (K1 q)) (fun q => Wp.icmpF ok hf hst q (K2 q))
theorem Wp.ifT (ok : TabOk M.2.1 tb) {cd : ClassFile.Cond} {o : Int} {x : Int32} {rest : List Value} (pc' : Nat) (hf : fnd tb pc = some (.ifCond cd o, 3)) (hst : st = .int x :: rest) (hc : cdP cd x 0) (ho : 0 ≤ (pc : Int) + o) (hp : ((pc : Int) + o).toNat = pc') (K : Wx l Z EL M R h W k n pc' Ls rest Q) : Wx l Z EL M R h W k n pc Ls st Q := by
  subst hst
  exact Wp.pure (fun hA hx hb hr => XS.ifYes hA hx rfl (pc0 := pc) rfl (by rw [hb]; exact fnd_ok ok hf) rfl (cd0_t hc) ho hp hr) K
theorem Wp.ifF (ok : TabOk M.2.1 tb) {cd : ClassFile.Cond} {o : Int} {x : Int32} {rest : List Value} (hf : fnd tb pc = some (.ifCond cd o, 3)) (hst : st = .int x :: rest) (hc : cdN cd x 0) (K : Wx l Z EL M R h W k n (pc + 3) Ls rest Q) : Wx l Z EL M R h W k n pc Ls st Q := by
  subst hst
  exact Wp.pure (fun hA hx hb hr => XS.ifNo hA hx rfl (by rw [hb]; exact fnd_ok ok hf) rfl (cd0_f hc) hr) K
theorem Wp.if0 (ok : TabOk M.2.1 tb) {cd : ClassFile.Cond} {o : Int} {x : Int32} {rest : List Value} (pc' : Nat) (hf : fnd tb pc = some (.ifCond cd o, 3)) (hst : st = .int x :: rest) (ho : 0 ≤ (pc : Int) + o) (hp : ((pc : Int) + o).toNat = pc') (K1 : cdP cd x 0 → Wx l Z EL M R h W k n pc' Ls rest Q) (K2 : cdN cd x 0 → Wx l Z EL M R h W k n (pc + 3) Ls rest Q) : Wx l Z EL M R h W k n pc Ls st Q :=
  (cd_em cd x 0).elim (fun q => Wp.ifT ok pc' hf hst q ho hp (K1 q)) (fun q => Wp.ifF ok hf hst q (K2 q))
theorem Wp.nullT (ok : TabOk M.2.1 tb) {o : Int} {rest : List Value} (pc' : Nat) (hf : fnd tb pc = some (.ifnull o, 3)) (hst : st = .null :: rest) (ho : 0 ≤ (pc : Int) + o) (hp : ((pc : Int) + o).toNat = pc') (K : Wx l Z EL M R h W k n pc' Ls rest Q) : Wx l Z EL M R h W k n pc Ls st Q := by
  subst hst
  exact Wp.pure (fun hA hx hb hr => XS.ifnullYes hA hx rfl (pc0 := pc) rfl (by rw [hb]; exact fnd_ok ok hf) rfl ho hp hr) K
theorem Wp.nullF (ok : TabOk M.2.1 tb) {o : Int} {a : Addr} {rest : List Value} (hf : fnd tb pc = some (.ifnull o, 3)) (hst : st = .ref a :: rest) (K : Wx l Z EL M R h W k n (pc + 3) Ls rest Q) : Wx l Z EL M R h W k n pc Ls st Q := by
  subst hst
  exact Wp.pure (fun hA hx hb hr => XS.ifnullNo hA hx rfl (by rw [hb]; exact fnd_ok ok hf) rfl hr) K
theorem Wp.nonnullT (ok : TabOk M.2.1 tb) {o : Int} {a : Addr} {rest : List Value} (pc' : Nat) (hf : fnd tb pc = some (.ifnonnull o, 3)) (hst : st = .ref a :: rest) (ho : 0 ≤ (pc : Int) + o) (hp : ((pc : Int) + o).toNat = pc') (K : Wx l Z EL M R h W k n pc' Ls rest Q) : Wx l Z EL M R h W k n pc Ls st Q := by
  subst hst
  exact Wp.pure (fun hA hx hb hr => XT.ifnonnullYes hA hx rfl (pc0 := pc) rfl (by rw [hb]; exact fnd_ok ok hf) rfl ho hp hr) K
theorem Wp.nonnullF (ok : TabOk M.2.1 tb) {o : Int} {rest : List Value} (hf : fnd tb pc = some (.ifnonnull o, 3)) (hst : st = .null :: rest) (K : Wx l Z EL M R h W k n (pc + 3) Ls rest Q) : Wx l Z EL M R h W k n pc Ls st Q := by
  subst hst
  exact Wp.pure (fun hA hx hb hr => XT.ifnonnullNo hA hx rfl (by rw [hb]; exact fnd_ok ok hf) rfl hr) K
theorem Wp.acmpT (ok : TabOk M.2.1 tb) {cd : ACond} {o : Int} {x y : Value} {rest : List Value} (pc' : Nat) (hf : fnd tb pc = some (.if_acmp cd o, 3)) (hst : st = y :: x :: rest) (h1 : x.isRef = true) (h2 : y.isRef = true) (hc : XT.acmp cd x y = true) (ho : 0 ≤ (pc : Int) + o) (hp : ((pc : Int) + o).toNat = pc') (K : Wx l Z EL M R h W k n pc' Ls rest Q) : Wx l Z EL M R h W k n pc Ls st Q := by
  subst hst
  exact Wp.pure (fun hA hx hb hr => XT.acmpYes hA hx rfl (pc0 := pc) rfl (by rw [hb]; exact fnd_ok ok hf) rfl h1 h2 hc ho hp hr) K
theorem Wp.acmpF (ok : TabOk M.2.1 tb) {cd : ACond} {o : Int} {x y : Value} {rest : List Value} (hf : fnd tb pc = some (.if_acmp cd o, 3)) (hst : st = y :: x :: rest) (h1 : x.isRef = true) (h2 : y.isRef = true) (hc : XT.acmp cd x y = false) (K : Wx l Z EL M R h W k n (pc + 3) Ls rest Q) : Wx l Z EL M R h W k n pc Ls st Q := by
  subst hst
  exact Wp.pure (fun hA hx hb hr => XT.acmpNo hA hx rfl (by rw [hb]; exact fnd_ok ok hf) rfl h1 h2 hc hr) K
theorem Wp.idiv (ok : TabOk M.2.1 tb) {x y : Int32} {rest : List Value} (hf : fnd tb pc = some (.idiv, 1)) (hst : st = .int y :: .int x :: rest) (hy : y ≠ 0) (K : Wx l Z EL M R h W k n (pc + 1) Ls (.int (x / y) :: rest) Q) : Wx l Z EL M R h W k n pc Ls st Q := by
  subst hst
  exact Wp.pure (fun hA hx hb hr => XS.idiv hA hx rfl (by rw [hb]; exact fnd_ok ok hf) rfl hy hr) K
theorem Wp.irem (ok : TabOk M.2.1 tb) {x y : Int32} {rest : List Value} (hf : fnd tb pc = some (.irem, 1)) (hst : st = .int y :: .int x :: rest) (hy : y ≠ 0) (K : Wx l Z EL M R h W k n (pc + 1) Ls (.int (x % y) :: rest) Q) : Wx l Z EL M R h W k n pc Ls st Q := by
  subst hst
  refine Wp.pure (fun hA hx hb hr => XS.irem hA hx rfl (by rw [hb]; exact fnd_ok ok hf) rfl hy ?_) K
  have q : x - x / y * y = x % y := irem_eq_mod x y
  rw [q]; exact hr
theorem Wp.ldiv (ok : TabOk M.2.1 tb) {x y : Int64} {rest : List Value} (hf : fnd tb pc = some (.ldiv, 1)) (hst : st = .long y :: .long x :: rest) (hy : y ≠ 0) (K : Wx l Z EL M R h W k n (pc + 1) Ls (.long (x / y) :: rest) Q) : Wx l Z EL M R h W k n pc Ls st Q := by
  subst hst
  exact Wp.pure (fun hA hx hb hr => XT.ldiv hA hx rfl (by rw [hb]; exact fnd_ok ok hf) rfl hy hr) K
theorem Wp.lrem (ok : TabOk M.2.1 tb) {x y : Int64} {rest : List Value} (hf : fnd tb pc = some (.lrem, 1)) (hst : st = .long y :: .long x :: rest) (hy : y ≠ 0) (K : Wx l Z EL M R h W k n (pc + 1) Ls (.long (x % y) :: rest) Q) : Wx l Z EL M R h W k n pc Ls st Q := by
  subst hst
  refine Wp.pure (fun hA hx hb hr => XT.lrem hA hx rfl (by rw [hb]; exact fnd_ok ok hf) rfl hy ?_) K
  rw [lrem_mod]; exact hr
/-! ### the three kinds of step over the heap -/
theorem Wp.stay {pc' : Nat} {Ls' : Array Slot} {st' : List Value} (hs : ∀ {p : Program} {e : Env} {s : State} {m : MethodId} {args : Array Value} {below : List Frame} {meth : Method} {c : Code} {T : State} {locs : List Loc}, Cx M p meth c → Stand p l e R s m args below meth c T locs k n → T.heap = h → Z.Warmed39 s.vm → s.vm.findClass M.1.cls = some m.cls →
      ∃ T', Stand p l e R s m args below meth c T' locs k n ∧ T'.heap = h ∧ ∀ target, Steps p.tables e below (T'.setTop (mkF m pc' Ls' st')) target → Steps p.tables e below (T.setTop (mkF m pc Ls st)) target)
    (K : Wx l Z EL M R h W k n pc' Ls' st' Q) : Wx l Z EL M R h W k n pc Ls st Q := by
  intro p e s m args below meth c hc T vm0 H
  obtain ⟨locs, k0, X, eT, hS, hk, hZ, hown, r⟩ := H
  obtain ⟨T', X', eT', stp⟩ := hs hc X eT hZ hown
  exact (K p e s m args below meth c hc T' vm0 ⟨locs, k0, X', eT', hS, hk, hZ, hown, r⟩).pre stp
theorem Wp.grow {pc' k' n' : Nat} {Ls' : Array Slot} {st' : List Value} {P : Heap → Prop} (hk' : k' ≤ R.cells) (hn' : n' ≤ R.slots) (hP : ∀ h', P h' → h.size < h'.size)
    (hs : ∀ {p : Program} {e : Env} {s : State} {m : MethodId} {args : Array Value} {below : List Frame} {meth : Method} {c : Code} {T : State} {locs : List Loc}, Cx M p meth c → Stand p l e R s m args below meth c T locs k n → T.heap = h → Z.Warmed39 s.vm → s.vm.findClass M.1.cls = some m.cls →
      ∃ T' h', Stand p l e R s m args below meth c T' locs k' n' ∧ T'.heap = h' ∧ Ext h h' ∧ P h' ∧ ∀ target, Steps p.tables e below (T'.setTop (mkF m pc' Ls' st')) target → Steps p.tables e below (T.setTop (mkF m pc Ls st)) target)
    (K : ∀ h', Ext h h' → P h' → Wx l Z EL M R h' (h.size :: W) k' n' pc' Ls' st' Q) : Wx l Z EL M R h W k n pc Ls st Q := by
  intro p e s m args below meth c hc T vm0 H
  obtain ⟨locs, k0, X, eT, hS, hk, hZ, hown, hC, hN, hO, -, -, hX, hWH, hEL⟩ := H
  obtain ⟨T', h', X', eT', E, hPh, stp⟩ := hs hc X eT hZ hown
  have C2 := CHr.ext E hC.1
  refine (K h' E hPh p e s m args below meth c hc T' vm0 ⟨locs, k0, X', eT', hS, Nat.le_trans hk E.1, hZ, hown, hC.trans C2, hN, ?_, hk', hn', ext_trans hX E, hWH, hEL⟩).pre stp
  intro a ha
  rcases List.mem_cons.mp ha with rfl | ha
  · exact ⟨hX.1, hP _ hPh, (Safe.new (Nat.le_refl _)).ext E hC.1⟩
  · exact Own.later C2 hO a ha
theorem Wp.wr {pc' : Nat} {Ls' : Array Slot} {st' : List Value} {a : Addr} {sl : Nat} {v : Value} (ha : a ∈ W)
    (hs : ∀ {p : Program} {e : Env} {s : State} {m : MethodId} {args : Array Value} {below : List Frame} {meth : Method} {c : Code} {T : State} {locs : List Loc}, Cx M p meth c → Stand p l e R s m args below meth c T locs k n → T.heap = h → Z.Warmed39 s.vm → s.vm.findClass M.1.cls = some m.cls →
      ∃ T' h', Stand p l e R s m args below meth c T' (locs ++ [⟨a, sl⟩]) k n ∧ T'.heap = h' ∧ Wr h h' a sl v ∧ ∀ target, Steps p.tables e below (T'.setTop (mkF m pc' Ls' st')) target → Steps p.tables e below (T.setTop (mkF m pc Ls st)) target)
    (K : ∀ h', Wr h h' a sl v → Wx l Z EL M R h' W k n pc' Ls' st' Q) : Wx l Z EL M R h W k n pc Ls st Q := by
  intro p e s m args below meth c hc T vm0 H
  obtain ⟨locs, k0, X, eT, hS, hk, hZ, hown, hC, hN, hO, q1, q2, hX, hWH, hEL⟩ := H
  obtain ⟨T', h', X', eT', Wr', stp⟩ := hs hc X eT hZ hown
  have C2 := CHr.wr Wr' (hO a ha).2.2 hC.1
  exact (K h' Wr' p e s m args below meth c hc T' vm0 ⟨_, k0, X', eT', hS, by rw [Wr'.size]; exact hk, hZ, hown, hC.trans C2, Fr.snoc X' hN (hO a ha).1, Own.later C2 hO, q1, q2, ext_wr hX Wr' (hO a ha).1, hWH, hEL⟩).pre stp
/-! ### calls -/
theorem backC {M' : Mth} {rm : Room} {as : Array Value} {W' : List Addr} {Q' : Option Value → Heap → List Addr → Prop} {p : Program} {e : Env} {below : List Frame} {s : State} {args : Array Value} {vm0 : Vm} {len Wd : Nat} (C : Ct3 l Z EL M' rm as h W' Q') (hZ : Z.Warmed39 vm0) (wc : (Jvm.Cond.code M'.1 M'.2.1 M'.2.2.1 M'.2.2.2).before a0 Z = true) (wz : (Jvm.Cond.initialized M'.1.cls).before a0 Z = true)
    (hf : rm.frames + 1 ≤ R.frames) (hl : Wd + (M'.2.2.1 + 11) + rm.locals ≤ R.locals) (hEL : EW Z a0 EL) (H : CHv Z EL vm0 h) (hO : Own Z EL vm0 h W') (hX : Ext Z.heap h) :
    BackS l R p e below (s.setVm vm0) args M'.1 len Wd (fun A a => a = as ∧ A.U.heap = h ∧ A.cells + rm.cells ≤ R.cells ∧ A.slots + rm.slots ≤ R.slots)
      (fun A _ v B => ∃ L Wo, Q' v B.U.heap Wo ∧ Own Z EL B.U.vm B.U.heap Wo ∧ Fr Z.heap.size L ∧ B.locs = A.locs ++ L ∧ B.cells = A.cells + rm.cells ∧ B.slots = A.slots + rm.slots ∧ CHr Z EL vm0 h B.U.vm B.U.heap ∧ Ext Z.heap B.U.heap ∧ (EL = [] → (s.setVm vm0).WarmedH B.U.vm)) :=
  BackS.of_freeW (bytes := M'.2.1) (maxL := M'.2.2.1) (ret := M'.2.2.2) (E := fun _ first o t L k n => k = rm.cells ∧ n = rm.slots ∧ (∃ v Wo, o = .returned v ∧ Q' v t.heap Wo ∧ Own Z EL t.vm t.heap Wo) ∧ Fr Z.heap.size L ∧ CHr Z EL first.vm first.heap t.vm t.heap ∧ Ext Z.heap t.heap ∧ (EL = [] → first.WarmedH t.vm)) C hf hl
    (fun m meth c A a Y hp => have hU : Z.Warmed39 A.U.vm := wtrans (s := s.setVm vm0) hZ Y.warmed
      ⟨by show (Jvm.Cond.and _ .tt).before a A.U = true; rw [Cond.before_and, mv hU wc]; rfl, mv hU wc, mv hU wz, hp.2.2.1, hp.2.2.2⟩)
    (fun m meth c A a g mk Y hp => ⟨hp.1, wtrans (s := s.setVm vm0) hZ Y.warmed, hp.2.1, (show CHv Z EL A.U.vm h from (CHv.at Y hZ hEL H).1), (show Own Z EL A.U.vm h W' from Own.later (CHv.at Y hZ hEL H) hO), hX⟩) (fun _ _ _ _ _ _ _ _ _ => trivial)
    (fun _ _ _ _ ⟨v, L, Wo, h1, h2, h8, h3, h4, h6, h7, h5⟩ => ⟨L, _, _, h5, rfl, rfl, ⟨v, Wo, h1, h2, h8⟩, h3, h4, h6, h7⟩)
    (fun m meth c A a g mk v t L k n Y hp _ _ ⟨e1, e2, ⟨v', Wo, e3, e4, e9⟩, e6, e5, e7, e8⟩ => by
      cases e3; subst e1 e2
      refine ⟨L, Wo, e4, e9, e6, rfl, rfl, rfl, (CHv.at Y hZ hEL H).trans ?_, e7, fun q => State.WarmedH.trans Y.warmed (e8 q)⟩
      rw [← hp.2.1]; exact e5)
abbrev noH (y : MethodName) : Prop := y.cls ≠ "java/lang/invoke/MethodHandle" ∧ y.cls ≠ "java/lang/invoke/VarHandle"
/-- the general call: what each of the four kinds of invoke gives -/
theorem Wp.call3 {M' : Mth} {rm : Room} {as : Array Value} {W' : List Addr} {Q' : Option Value → Heap → List Addr → Prop} {rest : List Value} {Wd len : Nat} (C : Ct3 l Z EL M' rm as h W' Q') (hEL : EW Z a0 EL) (wc : (Jvm.Cond.code M'.1 M'.2.1 M'.2.2.1 M'.2.2.2).before a0 Z = true) (wz : (Jvm.Cond.initialized M'.1.cls).before a0 Z = true)
    (hf : rm.frames + 1 ≤ R.frames) (hl : Wd + (M'.2.2.1 + 11) + rm.locals ≤ R.locals) (hce : k + rm.cells ≤ R.cells) (hsl : n + rm.slots ≤ R.slots) (hW : ∀ a ∈ W', a ∈ W)
    (hs : ∀ {p : Program} {e : Env} {s : State} {vm0 : Vm} {m : MethodId} {args : Array Value} {below : List Frame} {meth : Method} {c : Code} {T : State} {locs : List Loc} {Pre : Pt → Array Value → Prop} {Post : Pt → Array Value → Option Value → Pt → Prop}, Cx M p meth c → Stand p l e R (s.setVm vm0) m args below meth c T locs k n → T.heap = h → Z.Warmed39 vm0 → vm0.findClass M.1.cls = some m.cls →
      BackS l R p e below (s.setVm vm0) args M'.1 len Wd Pre Post → (∀ vm₁, (s.setVm vm0).WarmedH vm₁ → Pre ⟨T.setVm vm₁, locs, k, n⟩ as) →
      ∃ (v : Option Value) (vm₁ : Vm) (B : Pt), (s.setVm vm0).WarmedH vm₁ ∧ Stand p l e R ((s.setVm vm0).setVm B.U.vm) m args below meth c B.U B.locs B.cells B.slots ∧ (s.setVm vm0).Since B.U.vm B.U.heap.size ∧ T.heap.size ≤ B.U.heap.size ∧ Post ⟨T.setVm vm₁, locs, k, n⟩ as v B ∧
        Steps p.tables e below (T.setTop (mkF m pc Ls st)) (B.U.setTop (mkF m (pc + len) Ls (v.toList ++ rest))))
    (K : ∀ v h' Wo, Q' v h' Wo → h.size ≤ h'.size → Wx l Z EL M R h' (Wo ++ W) (k + rm.cells) (n + rm.slots) (pc + len) Ls (v.toList ++ rest) Q) : Wx l Z EL M R h W k n pc Ls st Q := by
  intro p e s m args below meth c hc T vm0 H
  obtain ⟨locs, k0, X, eT, hS, hk, hZ, hown, hC, hN, hO, q1, q2, hX, hWH, hEL2⟩ := H
  obtain ⟨v, vm₁, B, hw1, XB, hS2, hgr, ⟨L, Wo, hQ, hOo, hL, b1, b2, b3, hC2, hX2, hWH2⟩, stp⟩ := hs hc X eT hZ hown (backC C hZ wc wz hf hl hEL hC.1 (fun a ha => hO a (hW a ha)) hX) fun vm₁ _ => ⟨rfl, eT, hce, hsl⟩
  obtain ⟨X', hS', hZ', hown'⟩ := rebS hS (Nat.le_trans hk (Nat.le_of_eq (congrArg _ eT).symm)) XB hS2 hgr hZ hown
  have b1 : B.locs = locs ++ L := b1
  have b2 : B.cells = k + rm.cells := b2
  have b3 : B.slots = n + rm.slots := b3
  rw [b1, b2, b3] at X'
  exact (K v B.U.heap Wo hQ hC2.2.1 p e s m args below meth c hc B.U B.U.vm ⟨_, _, X', rfl, hS', Nat.le_refl _, hZ', hown', hC.trans hC2, Fr.app hN hL, Own.app hOo (Own.later hC2 hO), hce, hsl, hX2, fun q => State.WarmedH.trans (hWH q) (hWH2 q), hEL2⟩).pre fun t q => stp.trans q
theorem Wp.call {M' : Mth} {rm : Room} {as : Array Value} {W' : List Addr} {Q' : Option Value → Heap → Prop} {rest : List Value} {Wd len : Nat} (C : Ct l Z EL M' rm as h W' Q') (hEL : EW Z a0 EL) (wc : (Jvm.Cond.code M'.1 M'.2.1 M'.2.2.1 M'.2.2.2).before a0 Z = true) (wz : (Jvm.Cond.initialized M'.1.cls).before a0 Z = true)
    (hf : rm.frames + 1 ≤ R.frames) (hl : Wd + (M'.2.2.1 + 11) + rm.locals ≤ R.locals) (hce : k + rm.cells ≤ R.cells) (hsl : n + rm.slots ≤ R.slots) (hW : ∀ a ∈ W', a ∈ W)
    (hs : ∀ {p : Program} {e : Env} {s : State} {vm0 : Vm} {m : MethodId} {args : Array Value} {below : List Frame} {meth : Method} {c : Code} {T : State} {locs : List Loc} {Pre : Pt → Array Value → Prop} {Post : Pt → Array Value → Option Value → Pt → Prop}, Cx M p meth c → Stand p l e R (s.setVm vm0) m args below meth c T locs k n → T.heap = h → Z.Warmed39 vm0 → vm0.findClass M.1.cls = some m.cls →
      BackS l R p e below (s.setVm vm0) args M'.1 len Wd Pre Post → (∀ vm₁, (s.setVm vm0).WarmedH vm₁ → Pre ⟨T.setVm vm₁, locs, k, n⟩ as) →
      ∃ (v : Option Value) (vm₁ : Vm) (B : Pt), (s.setVm vm0).WarmedH vm₁ ∧ Stand p l e R ((s.setVm vm0).setVm B.U.vm) m args below meth c B.U B.locs B.cells B.slots ∧ (s.setVm vm0).Since B.U.vm B.U.heap.size ∧ T.heap.size ≤ B.U.heap.size ∧ Post ⟨T.setVm vm₁, locs, k, n⟩ as v B ∧
        Steps p.tables e below (T.setTop (mkF m pc Ls st)) (B.U.setTop (mkF m (pc + len) Ls (v.toList ++ rest))))
    (K : ∀ v h', Q' v h' → h.size ≤ h'.size → Wx l Z EL M R h' W (k + rm.cells) (n + rm.slots) (pc + len) Ls (v.toList ++ rest) Q) : Wx l Z EL M R h W k n pc Ls st Q :=
  Wp.call3 (Q' := fun v h' _ => Q' v h') C hEL wc wz hf hl hce hsl hW hs (fun v h' Wo q hh => Wp.up (Nat.le_refl _) (Nat.le_refl _) hce hsl (fun a ha => List.mem_append_right _ ha) (K v h' q hh))
theorem Wp.callS (ok : TabOk M.2.1 tb) {M' : Mth} {rm : Room} {index : Nat} {W' : List Addr} {Q' : Option Value → Heap → Prop} {argsL rest : List Value} {ps : List FieldType} {rt : Option FieldType} (C : Ct l Z EL M' rm argsL.toArray h W' Q') (hEL : EW Z a0 EL) (w1 : (Jvm.Cond.methodLink M.1.cls index M'.1).before a0 Z = true) (w2 : (Jvm.Cond.static M'.1).before a0 Z = true) (wz : (Jvm.Cond.initialized M'.1.cls).before a0 Z = true) (wc : (Jvm.Cond.code M'.1 M'.2.1 M'.2.2.1 M'.2.2.2).before a0 Z = true)
    (hf : fnd tb pc = some (.invokestatic index, 3)) (hst : st = argsL.reverse ++ rest) (hy : noH M'.1) (hd : parseMethodDescriptor M'.1.desc = some ⟨ps, rt⟩) (hlen : argsL.length = ps.length) (hsz : Ls.size = M.2.2.1) (hfr : rm.frames + 1 ≤ R.frames) (hl : (rest.map fun v => v.category).sum + (M'.2.2.1 + 11) + rm.locals ≤ R.locals) (hce : k + rm.cells ≤ R.cells) (hsl : n + rm.slots ≤ R.slots) (hW : ∀ a ∈ W', a ∈ W)
    (K : ∀ v h', Q' v h' → h.size ≤ h'.size → Wx l Z EL M R h' W (k + rm.cells) (n + rm.slots) (pc + 3) Ls (v.toList ++ rest) Q) : Wx l Z EL M R h W k n pc Ls st Q := by
  subst hst
  refine Wp.call C hEL wc wz hfr hl hce hsl hW (fun {p e s vm0 m args below meth c T locs Pre Post} hc X eT hZ hown hB hpre => ?_) K
  exact callSS X hc.1 (y := M'.1) (bytes := M'.2.1) (maxL := M'.2.2.1) (ret := M'.2.2.2) hown (mvT (s := s.setVm vm0) hZ w1) (mvT (s := s.setVm vm0) hZ w2) (mvT (s := s.setVm vm0) hZ wz) (mvT (s := s.setVm vm0) hZ wc) hy hB (g := mkF m pc Ls (argsL.reverse ++ rest)) rfl (by rw [hc.2.2.1]; exact hsz) (argsL := argsL) (rest := rest) (lenOf hd hlen) rfl (by show 2 * 0 + _ ≤ _; simp) (by rw [hc.2.1]; exact fnd_ok ok hf) hpre
theorem Wp.callI (ok : TabOk M.2.1 tb) {M' : Mth} {rm : Room} {index : Nat} {W' : List Addr} {Q' : Option Value → Heap → Prop} {a : Addr} {argsL rest : List Value} {ps : List FieldType} {rt : Option FieldType} (C : Ct l Z EL M' rm (.ref a :: argsL).toArray h W' Q') (hEL : EW Z a0 EL) (w1 : (Jvm.Cond.methodLink M.1.cls index M'.1).before a0 Z = true) (w2 : (Jvm.Cond.instanceMethod M'.1).before a0 Z = true) (wz : (Jvm.Cond.initialized M'.1.cls).before a0 Z = true) (wc : (Jvm.Cond.code M'.1 M'.2.1 M'.2.2.1 M'.2.2.2).before a0 Z = true)
    (hf : fnd tb pc = some (.invokespecial index, 3)) (hst : st = argsL.reverse ++ .ref a :: rest) (hi : M'.1.name = "<init>") (hret : M'.2.2.2 = none) (hy : noH M'.1) (hd : parseMethodDescriptor M'.1.desc = some ⟨ps, rt⟩) (hlen : argsL.length = ps.length) (hsz : Ls.size = M.2.2.1) (hfr : rm.frames + 1 ≤ R.frames) (hl : (rest.map fun v => v.category).sum + (M'.2.2.1 + 11) + rm.locals ≤ R.locals) (hce : k + rm.cells ≤ R.cells) (hsl : n + rm.slots ≤ R.slots) (hW : ∀ a ∈ W', a ∈ W)
    (K : ∀ v h', Q' v h' → h.size ≤ h'.size → Wx l Z EL M R h' W (k + rm.cells) (n + rm.slots) (pc + 3) Ls (v.toList ++ rest) Q) : Wx l Z EL M R h W k n pc Ls st Q := by
  subst hst
  refine Wp.call C hEL wc wz hfr hl hce hsl hW (fun {p e s vm0 m args below meth c T locs Pre Post} hc X eT hZ hown hB hpre => ?_) K
  have wc' := wc
  rw [hret] at wc'
  exact X.specialBackS hc.1 (y := M'.1) hi hown (mvT (s := s.setVm vm0) hZ w1) (mvT (s := s.setVm vm0) hZ w2) (bytes := M'.2.1) (maxL := M'.2.2.1) (mvT (s := s.setVm vm0) hZ wc') hy hB (g := mkF m pc Ls (argsL.reverse ++ .ref a :: rest)) rfl (by rw [hc.2.2.1]; exact hsz) (Steps.refl _) (a := a) (argsL := argsL) (rest := rest) (lenOf hd hlen) rfl (by show 2 * 0 + _ ≤ _; simp) (by rw [hc.2.1]; exact fnd_ok ok hf) hpre
theorem Wp.callI3 (ok : TabOk M.2.1 tb) {M' : Mth} {rm : Room} {index : Nat} {W' : List Addr} {Q' : Option Value → Heap → List Addr → Prop} {a : Addr} {argsL rest : List Value} {ps : List FieldType} {rt : Option FieldType} (C : Ct3 l Z EL M' rm (.ref a :: argsL).toArray h W' Q') (hEL : EW Z a0 EL) (w1 : (Jvm.Cond.methodLink M.1.cls index M'.1).before a0 Z = true) (w2 : (Jvm.Cond.instanceMethod M'.1).before a0 Z = true) (wz : (Jvm.Cond.initialized M'.1.cls).before a0 Z = true) (wc : (Jvm.Cond.code M'.1 M'.2.1 M'.2.2.1 M'.2.2.2).before a0 Z = true)
    (hf : fnd tb pc = some (.invokespecial index, 3)) (hst : st = argsL.reverse ++ .ref a :: rest) (hi : M'.1.name = "<init>") (hret : M'.2.2.2 = none) (hy : noH M'.1) (hd : parseMethodDescriptor M'.1.desc = some ⟨ps, rt⟩) (hlen : argsL.length = ps.length) (hsz : Ls.size = M.2.2.1) (hfr : rm.frames + 1 ≤ R.frames) (hl : (rest.map fun v => v.category).sum + (M'.2.2.1 + 11) + rm.locals ≤ R.locals) (hce : k + rm.cells ≤ R.cells) (hsl : n + rm.slots ≤ R.slots) (hW : ∀ a ∈ W', a ∈ W)
    (K : ∀ v h' Wo, Q' v h' Wo → h.size ≤ h'.size → Wx l Z EL M R h' (Wo ++ W) (k + rm.cells) (n + rm.slots) (pc + 3) Ls (v.toList ++ rest) Q) : Wx l Z EL M R h W k n pc Ls st Q := by
  subst hst
  refine Wp.call3 C hEL wc wz hfr hl hce hsl hW (fun {p e s vm0 m args below meth c T locs Pre Post} hc X eT hZ hown hB hpre => ?_) K
  have wc' := wc
  rw [hret] at wc'
  exact X.specialBackS hc.1 (y := M'.1) hi hown (mvT (s := s.setVm vm0) hZ w1) (mvT (s := s.setVm vm0) hZ w2) (bytes := M'.2.1) (maxL := M'.2.2.1) (mvT (s := s.setVm vm0) hZ wc') hy hB (g := mkF m pc Ls (argsL.reverse ++ .ref a :: rest)) rfl (by rw [hc.2.2.1]; exact hsz) (Steps.refl _) (a := a) (argsL := argsL) (rest := rest) (lenOf hd hlen) rfl (by show 2 * 0 + _ ≤ _; simp) (by rw [hc.2.1]; exact fnd_ok ok hf) hpre
theorem Wp.callV (ok : TabOk M.2.1 tb) {M' : Mth} {rm : Room} {index : Nat} {W' : List Addr} {Q' : Option Value → Heap → Prop} {a : Addr} {argsL rest : List Value} {ps : List FieldType} {rt : Option FieldType} {cC : String} (C : Ct l Z EL M' rm (.ref a :: argsL).toArray h W' Q') (E : Exa Z h a cC) (hEL : EW Z a0 EL) (w1 : (Jvm.Cond.methodLink M.1.cls index M'.1).before a0 Z = true) (wd : (Jvm.Cond.declares M'.1).before a0 Z = true) (ws : (Jvm.Cond.selects cC M'.1 M'.1).before a0 Z = true) (w2 : (Jvm.Cond.instanceMethod M'.1).before a0 Z = true) (wz : (Jvm.Cond.initialized M'.1.cls).before a0 Z = true) (wc : (Jvm.Cond.code M'.1 M'.2.1 M'.2.2.1 M'.2.2.2).before a0 Z = true)
    (hf : fnd tb pc = some (.invokevirtual index, 3)) (hst : st = argsL.reverse ++ .ref a :: rest) (hy : noH M'.1) (hd : parseMethodDescriptor M'.1.desc = some ⟨ps, rt⟩) (hlen : argsL.length = ps.length) (hsz : Ls.size = M.2.2.1) (hfr : rm.frames + 1 ≤ R.frames) (hl : (rest.map fun v => v.category).sum + (M'.2.2.1 + 11) + rm.locals ≤ R.locals) (hce : k + rm.cells ≤ R.cells) (hsl : n + rm.slots ≤ R.slots) (hW : ∀ a ∈ W', a ∈ W)
    (K : ∀ v h', Q' v h' → h.size ≤ h'.size → Wx l Z EL M R h' W (k + rm.cells) (n + rm.slots) (pc + 3) Ls (v.toList ++ rest) Q) : Wx l Z EL M R h W k n pc Ls st Q := by
  subst hst
  refine Wp.call C hEL wc wz hfr hl hce hsl hW (fun {p e s vm0 m args below meth c T locs Pre Post} hc X eT hZ hown hB hpre => ?_) K
  obtain ⟨cq, kq, qa, qb, qc⟩ := isOf (s := s.setVm vm0) hZ eT E
  exact X.virtualBackS hc.1 (y := M'.1) (z := M'.1) hown (mvT (s := s.setVm vm0) hZ w1) (mvT (s := s.setVm vm0) hZ wd) (notFace_of_selects (args := #[]) (mvT (s := s.setVm vm0) hZ ws)) (mvT (s := s.setVm vm0) hZ ws) (mvT (s := s.setVm vm0) hZ w2) hy hB qa qc (g := mkF m pc Ls (argsL.reverse ++ .ref a :: rest)) rfl (by rw [hc.2.2.1]; exact hsz) (Steps.refl _) (argsL := argsL) (rest := rest) (lenOf hd hlen) rfl (by show 2 * 0 + _ ≤ _; simp) (by rw [hc.2.1]; exact fnd_ok ok hf) hpre
/-- a private instance method by invokevirtual or invokespecial's younger form -/
theorem Wp.callP (ok : TabOk M.2.1 tb) {M' : Mth} {rm : Room} {index : Nat} {W' : List Addr} {Q' : Option Value → Heap → Prop} {a : Addr} {argsL rest : List Value} {ps : List FieldType} {rt : Option FieldType} {cC : String} (C : Ct l Z EL M' rm (.ref a :: argsL).toArray h W' Q') (E : Exa Z h a cC) (hEL : EW Z a0 EL) (w1 : (Jvm.Cond.methodLink M.1.cls index M'.1).before a0 Z = true) (ws : (Jvm.Cond.selects M'.1.cls M'.1 M'.1).before a0 Z = true) (wp : (Jvm.Cond.privateMethod M'.1).before a0 Z = true) (w2 : (Jvm.Cond.instanceMethod M'.1).before a0 Z = true) (wz : (Jvm.Cond.initialized M'.1.cls).before a0 Z = true) (wc : (Jvm.Cond.code M'.1 M'.2.1 M'.2.2.1 M'.2.2.2).before a0 Z = true)
    (hf : fnd tb pc = some (.invokevirtual index, 3)) (hst : st = argsL.reverse ++ .ref a :: rest) (hy : noH M'.1) (hd : parseMethodDescriptor M'.1.desc = some ⟨ps, rt⟩) (hlen : argsL.length = ps.length) (hsz : Ls.size = M.2.2.1) (hfr : rm.frames + 1 ≤ R.frames) (hl : (rest.map fun v => v.category).sum + (M'.2.2.1 + 11) + rm.locals ≤ R.locals) (hce : k + rm.cells ≤ R.cells) (hsl : n + rm.slots ≤ R.slots) (hW : ∀ a ∈ W', a ∈ W)
    (K : ∀ v h', Q' v h' → h.size ≤ h'.size → Wx l Z EL M R h' W (k + rm.cells) (n + rm.slots) (pc + 3) Ls (v.toList ++ rest) Q) : Wx l Z EL M R h W k n pc Ls st Q := by
  subst hst
  refine Wp.call C hEL wc wz hfr hl hce hsl hW (fun {p e s vm0 m args below meth c T locs Pre Post} hc X eT hZ hown hB hpre => ?_) K
  obtain ⟨cell, hcell, hobj⟩ := E.cell
  exact X.privateBackS hc.1 (y := M'.1) (bytes := M'.2.1) (maxL := M'.2.2.1) (ret := M'.2.2.2) hown (mvT (s := s.setVm vm0) hZ w1) (mvT (s := s.setVm vm0) hZ w2) (mvT (s := s.setVm vm0) hZ ws) (Cond.privateMethod_at (mvP (s := s.setVm vm0) (args := args) hZ wp)) (mvT (s := s.setVm vm0) hZ wc) hy hB (g := mkF m pc Ls (argsL.reverse ++ .ref a :: rest)) rfl (by rw [hc.2.2.1]; exact hsz) (Steps.refl _) (a := a) (cell := cell) (by rw [eT]; exact hcell) hobj (argsL := argsL) (rest := rest) (lenOf hd hlen) rfl (by show 2 * 0 + _ ≤ _; simp) (by rw [hc.2.1]; exact fnd_ok ok hf) hpre
/-- Object.<init> -/
theorem Wp.initO (ok : TabOk M.2.1 tb) {index : Nat} {a : Addr} {rest : List Value} (w1 : (Jvm.Cond.methodLink M.1.cls index Lib.objectInit).before a0 Z = true) (w2 : (Jvm.Cond.instanceMethod Lib.objectInit).before a0 Z = true) (w3 : (Jvm.Cond.code Lib.objectInit ⟨#[0xb1]⟩ 1 none).before a0 Z = true) (hf : fnd tb pc = some (.invokespecial index, 3)) (hst : st = .ref a :: rest) (hsz : Ls.size = M.2.2.1) (hfr : 1 ≤ R.frames) (hl : (rest.map fun v => v.category).sum + 12 ≤ R.locals)
    (K : Wx l Z EL M R h W k n (pc + 3) Ls rest Q) : Wx l Z EL M R h W k n pc Ls st Q := by
  subst hst
  refine Wp.stay (fun {p e s m args below meth c T locs} hc X eT hZ hown => ?_) K
  exact RoadKit.initO X hc.1 hZ hown w1 w2 w3 eT (g := mkF m pc Ls (.ref a :: rest)) rfl (by rw [hc.2.2.1]; exact hsz) rfl (by rw [hc.2.1]; exact fnd_ok ok hf) hfr (W := (rest.map fun v => v.category).sum) (by show 2 * 0 + _ ≤ _; simp) hl
/-! ### the heap's single steps -/
theorem Wp.new (ok : TabOk M.2.1 tb) {index ni : Nat} {cC : String} (w : (Jvm.Cond.classLink M.1.cls index cC).before a0 Z = true) (wi : (Jvm.Cond.instantiable cC ni).before a0 Z = true) (wz : (Jvm.Cond.initialized cC).before a0 Z = true) (hf : fnd tb pc = some (.new index, 3)) (hc : k + 1 ≤ R.cells) (hl : n + ni ≤ R.slots)
    (K : ∀ h', Ext h h' → Exa Z h' h.size cC → (∀ {O nm d : String} {ty : FieldType}, Laid Z a0 cC O nm d → parseFieldDescriptor d = some ty → Fld Z h' h.size O nm d (defaultValue ty)) → Wx l Z EL M R h' (h.size :: W) (k + 1) (n + ni) (pc + 3) Ls (.ref h.size :: st) Q) : Wx l Z EL M R h W k n pc Ls st Q := by
  refine Wp.grow (P := fun h' => Exa Z h' h.size cC ∧ ∀ {O nm d : String} {ty : FieldType}, Laid Z a0 cC O nm d → parseFieldDescriptor d = some ty → Fld Z h' h.size O nm d (defaultValue ty)) hc hl (fun _ q => q.1.lt) (fun {p e s m args below meth c T locs} hx X eT hZ hown => ?_) (fun h' E q => K h' E q.1 q.2)
  obtain ⟨T2, h2, X2, e2, E2, A2, D2, -, st2⟩ := newO X hx.1 hZ hown w wi wz eT (g := mkF m pc Ls st) rfl (by rw [hx.2.1]; exact fnd_ok ok hf) hc hl
  exact ⟨T2, h2, X2, e2, E2, ⟨A2, D2⟩, st2⟩
theorem Wp.getF (ok : TabOk M.2.1 tb) {index : Nat} {R0 O nm d : String} {a : Addr} {v : Value} {rest : List Value} (F : Fld Z h a O nm d v) (w : (Jvm.Cond.fieldLink M.1.cls index R0 nm d).before a0 Z = true) (via : Via Z R0 O nm d) (hf : fnd tb pc = some (.getfield index, 3)) (hst : st = .ref a :: rest) (K : Wx l Z EL M R h W k n (pc + 3) Ls (v :: rest) Q) : Wx l Z EL M R h W k n pc Ls st Q := by
  subst hst
  refine Wp.stay (fun {p e s m args below meth c T locs} hc X eT hZ hown => ?_) K
  exact RoadKit.getF X hc.1 hZ hown (host := "") (Or.inl w) via eT F (g := mkF m pc Ls (.ref a :: rest)) rfl rfl (by rw [hc.2.1]; exact fnd_ok ok hf)
theorem Wp.getS (ok : TabOk M.2.1 tb) {index : Nat} {R0 O nm d : String} {v : Value} (F : Sta Z Z.heap O nm d v) (w : (Jvm.Cond.fieldLink M.1.cls index R0 nm d).before a0 Z = true) (via : Via Z R0 O nm d) (hf : fnd tb pc = some (.getstatic index, 3)) (K : Wx l Z EL M R h W k n (pc + 3) Ls (v :: st) Q) : Wx l Z EL M R h W k n pc Ls st Q := by
  refine Wp.old fun hX => Wp.stay (fun {p e s m args below meth c T locs} hc X eT hZ hown => ?_) K
  exact RoadKit.getS (host := "") X hc.1 hZ hown w via eT (F.ext hX) (g := mkF m pc Ls st) rfl (by rw [hc.2.1]; exact fnd_ok ok hf)
theorem Wp.putF (ok : TabOk M.2.1 tb) {index ni : Nat} {R0 O nm d cC : String} {ty : FieldType} {a : Addr} {v old : Value} {rest : List Value} (F : Fld Z h a O nm d old) (E : Exa Z h a cC) (ha : a ∈ W) (w : (Jvm.Cond.fieldLink M.1.cls index R0 nm d).before a0 Z = true) (via : Via Z R0 O nm d) (L : (Jvm.Cond.lays cC O nm d).before a0 Z = true ∨ ((Jvm.Cond.laysFinal cC O nm d).before a0 Z = true ∧ M.1.cls = O ∧ M.1.name = "<init>")) (wi : (Jvm.Cond.instantiable cC ni).before a0 Z = true) (hty : parseFieldDescriptor d = some ty) (hfit : fits ty v = true) (hf : fnd tb pc = some (.putfield index, 3)) (hst : st = v :: .ref a :: rest)
    (K : ∀ h', Wr h h' a (RoadKit.slotOf Z O nm d) v → Wx l Z EL M R h' W k n (pc + 3) Ls rest Q) : Wx l Z EL M R h W k n pc Ls st Q := by
  subst hst
  refine Wp.wr ha (fun {p e s m args below meth c T locs} hc X eT hZ hown => ?_) K
  exact RoadKit.putF X hc.1 hZ hown (host := "") (Or.inl w) via eT F E (L.imp id fun q => ⟨q.1, q.2.1, by rw [hc.2.2.2.2.2]; exact q.2.2⟩) wi hty (narrow_of_fits hfit) hfit (g := mkF m pc Ls (v :: .ref a :: rest)) rfl rfl (by rw [hc.2.1]; exact fnd_ok ok hf)
theorem Wp.cast (ok : TabOk M.2.1 tb) {index : Nat} {K0 : String} {a : Addr} {rest : List Value} (F : Ins Z h a K0 true) (w : (Jvm.Cond.classLink M.1.cls index K0).before a0 Z = true) (hf : fnd tb pc = some (.checkcast index, 3)) (hst : st = .ref a :: rest) (K : Wx l Z EL M R h W k n (pc + 3) Ls (.ref a :: rest) Q) : Wx l Z EL M R h W k n pc Ls st Q := by
  subst hst
  refine Wp.stay (fun {p e s m args below meth c T locs} hc X eT hZ hown => ?_) K
  exact castY X hc.1 hZ hown w eT F (g := mkF m pc Ls (.ref a :: rest)) rfl rfl (by rw [hc.2.1]; exact fnd_ok ok hf)
theorem Wp.inst (ok : TabOk M.2.1 tb) {index : Nat} {K0 : String} {a : Addr} {rest : List Value} (F : Ins Z h a K0 true) (w : (Jvm.Cond.classLink M.1.cls index K0).before a0 Z = true) (hf : fnd tb pc = some (.instanceof index, 3)) (hst : st = .ref a :: rest) (K : Wx l Z EL M R h W k n (pc + 3) Ls (.int 1 :: rest) Q) : Wx l Z EL M R h W k n pc Ls st Q := by
  subst hst
  refine Wp.stay (fun {p e s m args below meth c T locs} hc X eT hZ hown => ?_) K
  exact instY X hc.1 hZ hown w eT F (g := mkF m pc Ls (.ref a :: rest)) rfl rfl (by rw [hc.2.1]; exact fnd_ok ok hf)
theorem Wp.ldcI (ok : TabOk M.2.1 tb) {index : Nat} {v : Int32} (w : (Jvm.Cond.constant M.1.cls index v).before a0 Z = true) (hf : fnd tb pc = some (.ldc index, 2)) (K : Wx l Z EL M R h W k n (pc + 2) Ls (.int v :: st) Q) : Wx l Z EL M R h W k n pc Ls st Q := by
  refine Wp.stay (fun {p e s m args below meth c T locs} hc X eT hZ hown => ?_) K
  exact ⟨T, X, eT, X.ldcInt hc.1 hown (mv hZ w) (g := mkF m pc Ls st) rfl (by rw [hc.2.1]; exact fnd_ok ok hf)⟩
theorem Wp.ldcL (ok : TabOk M.2.1 tb) {index : Nat} {v : Int64} (w : (Jvm.Cond.constantLong M.1.cls index v).before a0 Z = true) (hf : fnd tb pc = some (.ldc2_w index, 3)) (K : Wx l Z EL M R h W k n (pc + 3) Ls (.long v :: st) Q) : Wx l Z EL M R h W k n pc Ls st Q := by
  refine Wp.stay (fun {p e s m args below meth c T locs} hc X eT hZ hown => ?_) K
  exact ⟨T, X, eT, X.ldc2Long hc.1 hown (mv hZ w) (g := mkF m pc Ls st) rfl (by rw [hc.2.1]; exact fnd_ok ok hf)⟩
/-! ### arrays: a list of values -/
def Ar (Z : State) (h : Heap) (a : Addr) (ty : FieldType) (vs : List Value) : Prop := ∃ c : Cell, Arr Z h a c ty ∧ c.slots = vs.toArray ∧ vs.length < 2 ^ 31 ∧ ∀ v ∈ vs, fits ty v = true
theorem Ar.lt {a : Addr} {ty : FieldType} {vs : List Value} (A : Ar Z h a ty vs) : a < h.size := by obtain ⟨c, B, -⟩ := A; exact B.lt
theorem Ar.len {a : Addr} {ty : FieldType} {vs : List Value} (A : Ar Z h a ty vs) : vs.length < 2 ^ 31 := by obtain ⟨c, B, -, q, -⟩ := A; exact q
theorem Ar.ext {a : Addr} {ty : FieldType} {vs : List Value} {h' : Heap} (A : Ar Z h a ty vs) (E : Ext h h') : Ar Z h' a ty vs := by obtain ⟨c, B, r⟩ := A; exact ⟨c, B.ext E, r⟩
theorem Ar.keep {a : Addr} {ty : FieldType} {vs : List Value} {h' : Heap} {ws : List Addr} (A : Ar Z h a ty vs) (K : Keep h h' ws) (q : a ∉ ws) : Ar Z h' a ty vs := by obtain ⟨c, B, r⟩ := A; exact ⟨c, ⟨K.2.1 a c B.1 q, B.2⟩, r⟩
theorem Ar.other {a b : Addr} {ty : FieldType} {vs : List Value} {h' : Heap} {sl : Nat} {v : Value} (A : Ar Z h a ty vs) (Wr' : Wr h h' b sl v) (q : a ≠ b) : Ar Z h' a ty vs := by obtain ⟨c, B, r⟩ := A; exact ⟨c, B.other Wr' q, r⟩
theorem Ar.set {a : Addr} {ty : FieldType} {vs : List Value} {h' : Heap} {sl : Nat} {v : Value} (A : Ar Z h a ty vs) (hv : fits ty v = true) (Wr' : Wr h h' a sl v) : Ar Z h' a ty (vs.set sl v) := by
  obtain ⟨c, B, r1, r2, r3⟩ := A
  refine ⟨c.setSlot sl v, B.same Wr', ?_, by rw [List.length_set]; exact r2, fun x hx => ?_⟩
  · show c.slots.setIfInBounds sl v = _
    rw [r1]; simp
  · rcases List.mem_or_eq_of_mem_set hx with q | q
    · exact r3 _ q
    · rw [q]; exact hv
theorem Ar.arv {a : Addr} {ty : FieldType} {vs : List Value} (A : Ar Z h a ty vs) (d : Value) : ∃ kc, Arv Z h a kc ty (Int32.ofNat vs.length) vs d := by
  obtain ⟨c, B, r1, r2, r3⟩ := A
  have e1 : c.slots.size = vs.length := by rw [r1]; simp
  refine ⟨c.cls, c, B, rfl, by rw [e1, XT.n32 r2], Int32.ofNat_not_neg r2, fun j hj => ?_, fun j hj => ?_⟩
  · rw [e1] at hj; rw [r1]; simp [hj]
  · rw [e1] at hj; refine r3 _ ?_; simp [hj]
theorem Ar.of_arv {a : Addr} {ty : FieldType} {vs : List Value} {kc : ClassId} {z : Int32} {d : Value} (A : Arv Z h a kc ty z vs d) (hz : z.toNatClampNeg = vs.length) : Ar Z h a ty vs := by
  obtain ⟨c, B, -, e1, hz0, H, G⟩ := A
  have e2 : c.slots.size = vs.length := e1.trans hz
  refine ⟨c, B, ?_, by rw [← hz]; exact (back32 hz0).2, fun v hv => ?_⟩
  · apply Array.ext
    · simpa using e2
    · intro j h1 h2
      have q := H j h1
      have h3 : j < vs.length := by rw [← e2]; exact h1
      rw [Array.getElem?_eq_getElem h1] at q
      simpa [h3] using q
  · obtain ⟨i, hi, rfl⟩ := List.getElem_of_mem hv
    have := G i (by rw [e2]; exact hi)
    simpa [hi] using this
theorem Ar.xt {a : Addr} {ty : FieldType} {vs : List Value} {p : Program} {e : Env} {s : State} {m : MethodId} {args : Array Value} {below : List Frame} {meth : Method} {c : Code} {T : State} {locs : List Loc} (X : Stand p l e R s m args below meth c T locs k n) (eT : T.heap = h) (hZ : Z.Warmed39 s.vm) (A : Ar Z h a ty vs) : ∃ cl, Jvm.Free.XT.Arr ty a cl T ∧ cl.slots = vs.toArray ∧ Arr Z h a cl ty := by
  obtain ⟨cl, B, r1, r2, r3⟩ := A
  have hU : Z.Warmed39 T.vm := wtrans hZ X.warmed
  exact ⟨cl, ⟨by rw [eT]; exact B.1, State.isArrayOf_alike hU.alike B.2.1, B.2.2, by rw [r1]; simpa using r2⟩, r1, B⟩
theorem Wp.alen (ok : TabOk M.2.1 tb) {a : Addr} {ty : FieldType} {vs : List Value} {rest : List Value} (A : Ar Z h a ty vs) (hf : fnd tb pc = some (.arraylength, 1)) (hst : st = .ref a :: rest) (K : Wx l Z EL M R h W k n (pc + 1) Ls (.int (Int32.ofNat vs.length) :: rest) Q) : Wx l Z EL M R h W k n pc Ls st Q := by
  subst hst
  refine Wp.stay (fun {p e s m args below meth c T locs} hc X eT hZ hown => ?_) K
  obtain ⟨cl, A1, e1, -⟩ := A.xt X eT hZ
  refine ⟨T, X, eT, fun target q => X.alen hc.1 A1 (g := mkF m pc Ls (.ref a :: rest)) rfl rfl (by rw [hc.2.1]; exact fnd_ok ok hf) ?_⟩
  rw [e1]; simpa using q
theorem Wp.aget (ok : TabOk M.2.1 tb) {a : Addr} {ty : FieldType} {vs : List Value} {j : Int32} {i : Nat} {v : Value} {rest : List Value} {ins : Instr} (A : Ar Z h a ty vs) (hj : j = Int32.ofNat i) (hv : vs[i]? = some v) (hf : fnd tb pc = some (ins, 1)) (hins : ins = XT.loadOf ty) (hst : st = .int j :: .ref a :: rest) (K : Wx l Z EL M R h W k n (pc + 1) Ls (v :: rest) Q) : Wx l Z EL M R h W k n pc Ls st Q := by
  subst hst hins
  refine Wp.stay (fun {p e s m args below meth c T locs} hc X eT hZ hown => ?_) K
  obtain ⟨cl, A1, e1, -⟩ := A.xt X eT hZ
  exact ⟨T, X, eT, fun target q => X.aget hc.1 A1 hj (by rw [e1]; simpa using hv) (g := mkF m pc Ls (.int j :: .ref a :: rest)) rfl rfl (by rw [hc.2.1]; exact fnd_ok ok hf) q⟩
theorem wr_of_put {a : Addr} {cl : Cell} {i : Nat} {v : Value} {T T' : State} {ty : FieldType} (A : Arr Z T.heap a cl ty) (hi : i < cl.slots.size) (P : Jvm.Free.XT.Put a (cl.setSlot i v) T T') : Wr T.heap T'.heap a i v := by
  refine ⟨cl, A.1, A.plain, hi, ?_⟩
  obtain ⟨p1, p2, p3⟩ := P
  apply Array.ext_getElem?
  intro y
  by_cases q : y = a
  · subst q; rw [p1]; simp [(Array.getElem?_eq_some_iff.mp A.1).1]
  · rw [p2 y q, Array.getElem?_setIfInBounds_ne (Ne.symm q)]
theorem Wp.aput (ok : TabOk M.2.1 tb) {a : Addr} {ty : FieldType} {vs : List Value} {j : Int32} {i : Nat} {v : Value} {rest : List Value} {ins : Instr} (A : Ar Z h a ty vs) (ha : a ∈ W) (hj : j = Int32.ofNat i) (hi : i < vs.length) (hp : ty.isReference = false) (hfit : fits ty v = true) (hf : fnd tb pc = some (ins, 1)) (hins : ins = XT.storeOf ty) (hst : st = v :: .int j :: .ref a :: rest)
    (K : ∀ h', Wr h h' a i v → Ar Z h' a ty (vs.set i v) → Wx l Z EL M R h' W k n (pc + 1) Ls rest Q) : Wx l Z EL M R h W k n pc Ls st Q := by
  subst hst hins
  refine Wp.wr (sl := i) (v := v) ha (fun {p e s m args below meth c T locs} hc X eT hZ hown => ?_) (fun h' w => K h' w (A.set hfit w))
  obtain ⟨cl, A1, e1, A2⟩ := A.xt X eT hZ
  have hi' : i < cl.slots.size := by rw [e1]; simpa using hi
  obtain ⟨T', X', P, stp⟩ := X.aput hc.1 A1 hj hi' hp hfit (g := mkF m pc Ls (v :: .int j :: .ref a :: rest)) rfl rfl (by rw [hc.2.1]; exact fnd_ok ok hf)
  exact ⟨T', _, X', rfl, by rw [← eT]; rw [← eT] at A2; exact wr_of_put A2 hi' P, stp⟩
theorem Wp.newP (ok : TabOk M.2.1 tb) {aty : ArrayType} {z : Int32} {len cap : Nat} {rest : List Value} (w : (Jvm.Cond.arrayClass (newarray.typeOf aty)).before a0 Z = true) (hf : fnd tb pc = some (.newarray aty, 2)) (hst : st = .int z :: rest) (hz : z = Int32.ofNat len) (hcap : len ≤ cap) (hb : cap * 8 ≤ 536870912) (hc : k + 1 ≤ R.cells) (hl : n + cap ≤ R.slots)
    (K : ∀ h', Ext h h' → Ar Z h' h.size (newarray.typeOf aty) (List.replicate len (defaultValue (newarray.typeOf aty))) → Wx l Z EL M R h' (h.size :: W) (k + 1) (n + cap) (pc + 2) Ls (.ref h.size :: rest) Q) : Wx l Z EL M R h W k n pc Ls st Q := by
  subst hst hz
  have h31 : len < 2 ^ 31 := by omega
  have e1 : (Int32.ofNat len).toNatClampNeg = len := XT.n32 h31
  refine Wp.grow (P := fun h' => Ar Z h' h.size (newarray.typeOf aty) (List.replicate len (defaultValue (newarray.typeOf aty)))) hc hl (fun _ q => q.lt) (fun {p e s m args below meth c T locs} hx X eT hZ hown => ?_) K
  obtain ⟨T2, h2, cA, X2, e2, E2, A2, st2⟩ := RoadKit.newP X hx.1 hZ w eT (g := mkF m pc Ls (.int (Int32.ofNat len) :: rest)) rfl (by rw [hx.2.1]; exact fnd_ok ok hf) rfl (Int32.ofNat_not_neg h31) (by rw [e1]; exact hcap) hb hc hl
  refine ⟨T2, h2, X2, e2, E2, ⟨_, A2, ?_, by simpa using h31, fun v hv => ?_⟩, st2⟩
  · simp [newA, e1]
  · rw [(List.mem_replicate.mp hv).2]; cases aty <;> rfl
/-! ### leaving -/
theorem Wp.leave {v : Option Value} (hv : M.2.2.2 = none → v = none) (hs : ∀ {p : Program} {e : Env} {s : State} {m : MethodId} {args : Array Value} {below : List Frame} {meth : Method} {c : Code} {T : State} {locs : List Loc} {fs : List Frame}, Cx M p meth c → Stand p l e R s m args below meth c T locs k n → (∀ (f : JFrame) (acts : List Action), f.method = m → f.locked = none → f.entered = [] → (doReturn e (T.setTop f) acts v).1 = T.setFrames fs) → Steps p.tables e below (T.setTop (mkF m pc Ls st)) (T.setFrames fs))
    (K : Q v h W) : Wx l Z EL M R h W k n pc Ls st Q := by
  intro p e s m args below meth c hc T vm0 H
  obtain ⟨locs, k0, X, eT, hS, hk, hZ, hown, hC, hN, hO, q1, q2, hX, hWH, a1, hEL⟩ := H
  obtain ⟨fs, hr, hrun, hended, hW1, hW2, hW3, hW4⟩ := X.leaveW hS (by rw [eT]; exact hk) (v := v) (fun q => hv (hc.2.2.2.1 ▸ q)) hc.2.2.2.2.1
  have C2 : CHr Z EL s.vm s.heap (T.setFrames fs).vm (T.setFrames fs).heap := by
    have := hC.trans (CHv.at X hZ hEL hC.1)
    rw [← eT] at this; exact this
  have O2 : Own Z EL (T.setFrames fs).vm (T.setFrames fs).heap W := by
    have := Own.later (CHv.at X hZ hEL hC.1) hO
    rw [← eT] at this; exact this
  exact ⟨_, v, locs, W, hs hc X hr, hrun, hended, by rw [← eT] at K; exact K, O2, hN, C2, by rw [← eT] at hX; exact hX, fun q => State.WarmedH.trans (hWH q) X.warmed, hW1, hW2, hW3, hW4.mono q1 q2⟩
theorem Wp.ret0 (ok : TabOk M.2.1 tb) (hret : M.2.2.2 = none) (hf : fnd tb pc = some (.return_, 1)) (hst : st = []) (K : Q none h W) : Wx l Z EL M R h W k n pc Ls st Q := by
  subst hst
  exact Wp.leave (fun _ => rfl) (fun hc X hr => X.returnOut hc.1 (by rw [hc.2.2.2.1]; exact hret) (by rw [hc.2.1]; exact fnd_ok ok hf) hr) K
theorem Wp.retI (ok : TabOk M.2.1 tb) {t : FieldType} {z : Int32} {rest : List Value} (hret : M.2.2.2 = some t) (ht : t = .int ∨ t = .boolean ∨ t = .byte ∨ t = .char ∨ t = .short) (hf : fnd tb pc = some (.ireturn, 1)) (hst : st = .int z :: rest) (hfit : fits t (.int z) = true) (K : Q (some (.int z)) h W) : Wx l Z EL M R h W k n pc Ls st Q := by
  subst hst
  exact Wp.leave (fun q => by rw [hret] at q; cases q) (fun hc X hr => retOut X hc.1 (by rw [hc.2.2.2.1]; exact hret) (narrow_of_fits hfit) (Or.inl ⟨rfl, ht, z, rfl⟩) (by rw [hc.2.1]; exact fnd_ok ok hf) hr) K
theorem Wp.retL (ok : TabOk M.2.1 tb) {z : Int64} {rest : List Value} (hret : M.2.2.2 = some .long) (hf : fnd tb pc = some (.lreturn, 1)) (hst : st = .long z :: rest) (K : Q (some (.long z)) h W) : Wx l Z EL M R h W k n pc Ls st Q := by
  subst hst
  exact Wp.leave (fun q => by rw [hret] at q; cases q) (fun hc X hr => retOut X hc.1 (by rw [hc.2.2.2.1]; exact hret) (rfl : narrow .long (.long z) = .long z) (Or.inr (Or.inl ⟨rfl, rfl, z, rfl⟩)) (by rw [hc.2.1]; exact fnd_ok ok hf) hr) K
theorem Wp.retA (ok : TabOk M.2.1 tb) {t : FieldType} {w : Value} {rest : List Value} (hret : M.2.2.2 = some t) (ht : t.isReference = true) (hw : w.isRef = true) (hf : fnd tb pc = some (.areturn, 1)) (hst : st = w :: rest) (K : Q (some w) h W) : Wx l Z EL M R h W k n pc Ls st Q := by
  subst hst
  have hn : narrow t w = w := by cases w <;> cases t <;> first | rfl | simp_all [Value.isRef, FieldType.isReference]
  exact Wp.leave (fun q => by rw [hret] at q; cases q) (fun hc X hr => retOut X hc.1 (by rw [hc.2.2.2.1]; exact hret) hn (Or.inr (Or.inr (Or.inr (Or.inr ⟨rfl, ht, hw⟩)))) (by rw [hc.2.1]; exact fnd_ok ok hf) hr) K
end Rules
end Jvm.Pilot.@@N@@.Kw
namespace Jvm.Pilot.@@N@@.Kw
open Jvm Jvm.ClassFile Sem Op Lib Jvm.Free Jvm.Stand Jvm.LawKit Jvm.RoadKit Bundle
/-! ## numbers -/
theorem n_lt {i j : Nat} (hi : i < 2 ^ 31) (hj : j < 2 ^ 31) : (Int32.ofNat i < Int32.ofNat j) ↔ i < j := by
  rw [Int32.lt_iff_toInt_lt, Int32.toInt_ofNat_small hi, Int32.toInt_ofNat_small hj]; omega
theorem n_le {i j : Nat} (hi : i < 2 ^ 31) (hj : j < 2 ^ 31) : (Int32.ofNat i ≤ Int32.ofNat j) ↔ i ≤ j := by
  rw [Int32.le_iff_toInt_le, Int32.toInt_ofNat_small hi, Int32.toInt_ofNat_small hj]; omega
theorem n_eq {i j : Nat} (hi : i < 2 ^ 31) (hj : j < 2 ^ 31) : (Int32.ofNat i = Int32.ofNat j) ↔ i = j := by
  rw [← Int32.toInt_inj, Int32.toInt_ofNat_small hi, Int32.toInt_ofNat_small hj]; omega
theorem n_add (i j : Nat) : Int32.ofNat i + Int32.ofNat j = Int32.ofNat (i + j) := (Int32.ofNat_add i j).symm
theorem n_succ (i : Nat) : Int32.ofNat i + 1 = Int32.ofNat (i + 1) := n_add i 1
theorem n_sub {i j : Nat} (q : j ≤ i) : Int32.ofNat i - Int32.ofNat j = Int32.ofNat (i - j) := by
  obtain ⟨d, rfl⟩ := Nat.exists_eq_add_of_le q
  rw [← n_add, Nat.add_sub_cancel_left, Int32.add_comm, Int32.add_sub_cancel]
theorem n_int {i : Nat} (hi : i < 2 ^ 31) : (Int32.ofNat i).toInt = i := Int32.toInt_ofNat_small hi
theorem n_of {x : Int32} (q : 0 ≤ x.toInt) : x = Int32.ofNat x.toInt.toNat ∧ x.toInt.toNat < 2 ^ 31 := by
  have h2 := x.toInt_lt
  have hb : x.toInt.toNat < 2 ^ 31 := by omega
  refine ⟨Int32.toInt_inj.mp ?_, hb⟩
  rw [n_int hb]; omega
theorem mod_n (x : Int32) {d : Nat} (hd : 0 < d) (hd2 : d < 2 ^ 31) : ∃ m, m < d ∧ (x &&& 2147483647) % Int32.ofNat d = Int32.ofNat m := by
  have h0 : 0 ≤ (x &&& 2147483647).toInt := by rw [Int32.and_comm]; exact (c_and' 2147483647 x (by decide)).1
  have e1 := (c_irem (x &&& 2147483647) (Int32.ofNat d) d (n_int hd2)).1 h0
  have h1 : 0 ≤ ((x &&& 2147483647) % Int32.ofNat d).toInt := by rw [e1]; exact Int.emod_nonneg _ (by omega)
  have h2 : ((x &&& 2147483647) % Int32.ofNat d).toInt < d := by rw [e1]; exact Int.emod_lt_of_pos _ (by omega)
  obtain ⟨e2, -⟩ := n_of h1
  exact ⟨_, by omega, e2⟩
theorem andmod_n (x a : Int32) (ha : 0 ≤ a.toInt) {d : Nat} (hd : 0 < d) (hd2 : d < 2 ^ 31) : ∃ m, m < d ∧ (x &&& a) % Int32.ofNat d = Int32.ofNat m := by
  have h0 : 0 ≤ (x &&& a).toInt := by rw [Int32.and_comm]; exact (c_and' a x ha).1
  have e1 := (c_irem (x &&& a) (Int32.ofNat d) d (n_int hd2)).1 h0
  have h1 : 0 ≤ ((x &&& a) % Int32.ofNat d).toInt := by rw [e1]; exact Int.emod_nonneg _ (by omega)
  have h2 : ((x &&& a) % Int32.ofNat d).toInt < d := by rw [e1]; exact Int.emod_lt_of_pos _ (by omega)
  obtain ⟨e2, -⟩ := n_of h1
  exact ⟨_, by omega, e2⟩
/-! ## bytes and chars -/
def Lat (cs : List Int32) : Prop := ∀ c ∈ cs, 0 ≤ c.toInt ∧ c.toInt ≤ 255
abbrev bt (c : Int32) : Value := .int (lo8 c)
abbrev byt (cs : List Int32) : List Value := cs.map bt
theorem fits_bt (c : Int32) : fits .byte (bt c) = true := fits_nar_byte c
theorem lo8_int (c : Int32) : (lo8 c).toInt = (c.toInt).bmod 256 := by
  simp [lo8, Int32.toInt_toInt8]
theorem lo8_and {c : Int32} (q : 0 ≤ c.toInt ∧ c.toInt ≤ 255) : lo8 c &&& 255 = c := by
  obtain ⟨e, hb⟩ := n_of q.1
  have hk : c.toInt.toNat < 256 := by omega
  rw [e]
  generalize c.toInt.toNat = k at hk
  revert k
  decide +kernel
theorem lo8_inj {c d : Int32} (q : 0 ≤ c.toInt ∧ c.toInt ≤ 255) (r : 0 ≤ d.toInt ∧ d.toInt ≤ 255) (e : lo8 c = lo8 d) : c = d := by
  rw [← lo8_and q, e, lo8_and r]
theorem byt_inj : ∀ {cs ds : List Int32}, Lat cs → Lat ds → byt cs = byt ds → cs = ds
  | [], [], _, _, _ => rfl
  | [], _ :: _, _, _, e => by simp at e
  | _ :: _, [], _, _, e => by simp at e
  | c :: cs, d :: ds, hc, hd, e => by
    simp only [byt, List.map_cons, List.cons.injEq, bt, Value.int.injEq] at e
    rw [lo8_inj (hc c (List.mem_cons_self ..)) (hd d (List.mem_cons_self ..)) e.1, byt_inj (fun x hx => hc x (List.mem_cons_of_mem _ hx)) (fun x hx => hd x (List.mem_cons_of_mem _ hx)) e.2]
theorem c16_lat {c : Int32} (q : 0 ≤ c.toInt ∧ c.toInt ≤ 255) : c16 c = c := by
  obtain ⟨e, hb⟩ := n_of q.1
  have hk : c.toInt.toNat < 256 := by omega
  rw [e]
  generalize c.toInt.toNat = k at hk
  revert k
  decide +kernel
theorem fitc {c : Int32} (q : 0 ≤ c.toInt ∧ c.toInt ≤ 255) : fits .char (.int c) = true := by
  simp only [fits, Bool.and_eq_true, decide_eq_true_eq, Int32.le_iff_toInt_le, show (0 : Int32).toInt = 0 from by decide, show (65535 : Int32).toInt = 65535 from by decide]; omega
theorem shr0 (x : Int32) : x >>> ((0 : Int32) &&& 31) = x := by
  show x >>> (0 : Int32) = x
  exact Int32.shiftRight_zero
theorem and255 (x : Int32) : 0 ≤ (x &&& 255).toInt ∧ (x &&& 255).toInt ≤ 255 := by
  have := c_and' 255 x (by decide); rw [Int32.and_comm]; exact ⟨this.1, this.2⟩
theorem latD {cs : List Int32} (q : (cs.all fun c => decide (0 ≤ c.toInt ∧ c.toInt ≤ 255)) = true) : Lat cs := fun c hc => of_decide_eq_true (List.all_eq_true.mp q c hc)
theorem Lat.nil : Lat [] := fun _ q => nomatch q
theorem Lat.cons {c : Int32} {cs : List Int32} (q : 0 ≤ c.toInt ∧ c.toInt ≤ 255) (r : Lat cs) : Lat (c :: cs) := fun x hx => by
  rcases List.mem_cons.mp hx with rfl | hx
  · exact q
  · exact r x hx
theorem Lat.sub {cs ds : List Int32} (L : Lat cs) (q : ∀ x ∈ ds, x ∈ cs) : Lat ds := fun c hc => L c (q c hc)
theorem Lat.at {cs : List Int32} (L : Lat cs) {i : Nat} {c : Int32} (q : cs[i]? = some c) : 0 ≤ c.toInt ∧ c.toInt ≤ 255 := L c (List.mem_of_getElem? q)
abbrev SN : String := "java/lang/String"
/-- a String of the chars cs, all below 256, compact -/
def Str (Z : State) (h : Heap) (a : Addr) (cs : List Int32) : Prop := Lat cs ∧ Exa Z h a "java/lang/String" ∧ Fld Z h a "java/lang/String" "coder" "B" (.int 0) ∧ ∃ b, Fld Z h a "java/lang/String" "value" "[B" (.ref b) ∧ Ar Z h b .byte (byt cs)
/-- x is a's own cell or its array's -/
def Foot (Z : State) (h : Heap) (a x : Addr) : Prop := x = a ∨ Fld Z h a "java/lang/String" "value" "[B" (.ref x)
section
variable {l : Launch} {Z : State} {EL : List (String × Nat)} {M : Mth} {R : Room} {h h' : Heap} {W : List Addr} {k n pc : Nat} {Ls : Array Slot} {st : List Value} {Q : Option Value → Heap → List Addr → Prop} {a0 : Array Value} {tb : Tab} {a b x : Addr} {cs : List Int32} {ws : List Addr}
theorem Fld.uniq {C nm d : String} {v w : Value} (F : Fld Z h a C nm d v) (G : Fld Z h a C nm d w) : v = w := by
  obtain ⟨cell, cf, k, i, f, h1, h2, -, -, -, -, h7⟩ := F
  obtain ⟨cell', cf', k', i', f', g1, g2, -, -, -, -, g7⟩ := G
  cases h1.symm.trans g1
  cases h2.symm.trans g2
  exact Option.some.inj (h7.symm.trans g7)
theorem Str.lat (S : Str Z h a cs) : Lat cs := S.1
theorem Str.exa (S : Str Z h a cs) : Exa Z h a "java/lang/String" := S.2.1
theorem Str.cod (S : Str Z h a cs) : Fld Z h a "java/lang/String" "coder" "B" (.int 0) := S.2.2.1
theorem Str.val (S : Str Z h a cs) : ∃ b, Fld Z h a "java/lang/String" "value" "[B" (.ref b) ∧ Ar Z h b .byte (byt cs) := S.2.2.2
theorem Str.lt (S : Str Z h a cs) : a < h.size := S.2.1.lt
theorem Str.len (S : Str Z h a cs) : cs.length < 2 ^ 31 := by obtain ⟨b, -, A⟩ := S.val; simpa using A.len
theorem Str.ext (S : Str Z h a cs) (E : Ext h h') : Str Z h' a cs := by
  obtain ⟨q1, q2, q3, b, q4, q5⟩ := S
  exact ⟨q1, q2.ext E, q3.ext E, b, q4.ext E, q5.ext E⟩
theorem Str.keep (S : Str Z h a cs) (K : Keep h h' ws) (q : ∀ x ∈ ws, ¬ Foot Z h a x) : Str Z h' a cs := by
  obtain ⟨q1, q2, q3, b, q4, q5⟩ := S
  have na : a ∉ ws := fun z => q a z (Or.inl rfl)
  have nb : b ∉ ws := fun z => q b z (Or.inr q4)
  exact ⟨q1, q2.keep K, q3.keep K na, b, q4.keep K na, q5.keep K nb⟩
theorem Str.foot_lt (S : Str Z h a cs) (F : Foot Z h a x) : x < h.size := by
  obtain ⟨q1, q2, q3, b, q4, q5⟩ := S
  rcases F with rfl | F
  · exact q2.lt
  · cases Fld.uniq F q4; exact q5.lt
theorem Str.nofoot (S : Str Z h a cs) (q : h.size ≤ x) : ¬ Foot Z h a x := fun F => absurd (S.foot_lt F) (Nat.not_lt.mpr q)
theorem Str.foot_ext (S : Str Z h a cs) (E : Ext h h') (q : ¬ Foot Z h a x) : ¬ Foot Z h' a x := fun F => by
  obtain ⟨q1, q2, q3, b, q4, q5⟩ := S
  rcases F with F | F
  · exact q (Or.inl F)
  · cases Fld.uniq F (q4.ext E); exact q (Or.inr q4)
theorem Str.foot_keep (S : Str Z h a cs) (K : Keep h h' ws) (hs : ∀ x ∈ ws, ¬ Foot Z h a x) (q : ¬ Foot Z h a x) : ¬ Foot Z h' a x := fun F => by
  obtain ⟨q1, q2, q3, b, q4, q5⟩ := S
  have na : a ∉ ws := fun z => hs a z (Or.inl rfl)
  rcases F with F | F
  · exact q (Or.inl F)
  · cases Fld.uniq F (q4.keep K na); exact q (Or.inr q4)
/-- an object of another class, or an array that isn't of bytes, is no part of a String -/
theorem Str.foot_exa {C : String} {ni : Nat} (S : Str Z h a cs) (E : Exa Z h x C) (w : (Jvm.Cond.instantiable C ni).before a0 Z = true) (hn : C ≠ "java/lang/String") : ¬ Foot Z h a x := fun F => by
  obtain ⟨q1, q2, q3, b, q4, q5⟩ := S
  rcases F with rfl | F
  · exact ne_exa E q2 hn rfl
  · cases Fld.uniq F q4
    obtain ⟨c, A, -⟩ := q5
    exact ne_arr E w A rfl
theorem arr_ty {c c' : Cell} {t t' : FieldType} (A : Arr Z h a c t) (B : Arr Z h a c' t') : t = t' := by
  cases A.1.symm.trans B.1
  obtain ⟨-, k1, e1, c1, g1⟩ := A.2.1
  obtain ⟨-, k2, e2, c2, g2⟩ := B.2.1
  cases e1.symm.trans e2
  have := g1.symm.trans g2
  injection this
theorem Str.foot_arr {ni : Nat} {t : FieldType} {vs : List Value} (S : Str Z h a cs) (A : Ar Z h x t vs) (w : (Jvm.Cond.instantiable "java/lang/String" ni).before a0 Z = true) (hn : t ≠ .byte) : ¬ Foot Z h a x := fun F => by
  obtain ⟨q1, q2, q3, b, q4, q5⟩ := S
  obtain ⟨c, A, -⟩ := A
  rcases F with rfl | F
  · exact ne_arr q2 w A rfl
  · cases Fld.uniq F q4
    obtain ⟨c', A', -⟩ := q5
    exact hn (arr_ty A A')
theorem wr_keep {sl : Nat} {v : Value} (w : Wr h h' a sl v) : Keep h h' [a] := Keep.of_wr w
theorem keep_ext (E : Ext h h') : Keep h h' [] := (Keep.refl h []).ext E
theorem ext_of_keep0 (K : Keep h h' []) : Ext h h' := ext_keep (ext_refl h) K fun _ q => nomatch q
theorem all1 {P : Addr → Prop} {y : Addr} (q : P y) : ∀ x ∈ [y], P x := allS q all0
/-! ## ldc of a String constant -/
theorem Wp.ldcStr (ok : TabOk M.2.1 tb) {index nn : Nat} {text : String} (cs : List Int32) (w : (Jvm.Cond.stringLink M.1.cls index text).before a0 Z = true) (wS : ∀ a ∈ Bundle.stringAtoms, a.before a0 Z = true) (hEL : EW Z a0 EL) (hmem : (M.1.cls, index) ∈ EL) (ht : (∀ c ∈ text.toList, c.toNat < 256) ∧ text.toList.map (fun c => Value.int (Jvm.Lit.byteI c.toNat.toUInt16)) = byt cs) (hlat : Lat cs) (hlen : cs.length < 2 ^ 31)
    (hf : fnd tb pc = some (.ldc index, 2)) (hn : 4 * text.toList.length ≤ nn) (hbig : nn ≤ 536870912) (hc : k + 2 ≤ R.cells) (hl : n + (nn + 4) ≤ R.slots)
    (K : ∀ a h', Ext h h' → Str Z h' a cs → (∀ x ∈ W, ¬ Foot Z h' a x) → Wx l Z EL M R h' W (k + 2) (n + (nn + 4)) (pc + 2) Ls (.ref a :: st) Q) : Wx l Z EL M R h W k n pc Ls st Q := by
  intro p e s m args below meth c hx T vm0 H
  obtain ⟨locs, k0, X, eT, hS, hk, hZ, hown, hC, hN, hO, q1, q2, hX, hWH, hEL2⟩ := H
  obtain ⟨a, T', h', k1, b, kc, X', eT', E, hS', hk1, hZ', hown', hE, hFc, hFv, hA, -, -, hC2, -, hne, stp⟩ := ldcCH X hx.1 hZ hown w wS eT hS hk hEL hmem hC.1 (vs := byt cs) (z := Int32.ofNat cs.length) ht (Int32.ofNat_not_neg hlen) (by rw [XT.n32 hlen]; simp) (g := mkF m pc Ls st) rfl (by rw [hx.2.1]; exact fnd_ok ok hf) hn hbig hc hl
  have hO' := Own.later hC2 hO
  have S : Str Z h' a cs := ⟨hlat, hE, hFc, b, hFv, Ar.of_arv hA (by rw [XT.n32 hlen]; simp)⟩
  refine (K a h' E S (fun x hx F => ?_) p e s m args below meth c hx T' T'.vm ⟨locs, k1, X', eT', hS', hk1, hZ', hown', hC.trans hC2, hN, hO', hc, hl, ext_trans hX E, (fun q => by rw [q] at hmem; cases hmem), hEL2⟩).pre stp
  obtain ⟨n1, n2⟩ := hne x (hO' x hx).2.2
  rcases F with F | F
  · exact n1 F
  · cases Fld.uniq F hFv; exact n2 rfl
/-! ## System.arraycopy -/
theorem take_drop (vs : List Value) (d : Value) (i len : Nat) (q : i + len ≤ vs.length) : (List.range len).map (fun j => vs.getD (i + j) d) = (vs.drop i).take len := by
  apply List.ext_getElem
  · simp; omega
  · intro j h1 h2
    simp at h1
    simp [List.getD, List.getElem?_eq_getElem (show i + j < vs.length by omega)]
theorem Wp.acopy (ok : TabOk M.2.1 tb) {index i j len : Nat} {jo jq jn : Int32} {ty : FieldType} {vs vd : List Value} {rest : List Value} (A : Ar Z h a ty vs) (B : Ar Z h b ty vd) (hb : b ∈ W) (hty : refKind ty = false) (ho : jo = Int32.ofNat i) (hq : jq = Int32.ofNat j) (hn : jn = Int32.ofNat len) (h4 : i + len ≤ vs.length) (h5 : j + len ≤ vd.length)
    (w1 : (Jvm.Cond.methodLink M.1.cls index Jvm.Stand.acN).before a0 Z = true) (w2 : (Jvm.Cond.native Jvm.Stand.acN).before a0 Z = true) (w3 : (Jvm.Cond.static Jvm.Stand.acN).before a0 Z = true) (w4 : (Jvm.Cond.initialized "java/lang/System").before a0 Z = true)
    (hf : fnd tb pc = some (.invokestatic index, 3)) (hst : st = .int jn :: .int jq :: .ref b :: .int jo :: .ref a :: rest) (hsz : Ls.size = M.2.2.1) (hfr : 1 ≤ R.frames) (hlo : (rest.map fun v => v.category).sum + (nativeFrameWords "java/lang/System" "arraycopy" 5 + 11) ≤ R.locals)
    (K : ∀ h', Keep h h' [b] → Ar Z h' b ty (vd.take j ++ (vs.drop i).take len ++ vd.drop (j + len)) → Wx l Z EL M R h' W k n (pc + 3) Ls rest Q) : Wx l Z EL M R h W k n pc Ls st Q := by
  subst hst ho hq hn
  intro p e s m args below meth c hc T vm0 H
  obtain ⟨locs, k0, X, eT, hS, hk, hZ, hown, hC, hN, hO, q1, q2, hX, hWH, hEL⟩ := H
  have l1 := A.len
  have l2 := B.len
  obtain ⟨ka, A1⟩ := A.arv (.int 0)
  obtain ⟨kb, B1⟩ := B.arv (.int 0)
  have e1 : (Int32.ofNat i).toNatClampNeg = i := XT.n32 (by omega)
  have e2 : (Int32.ofNat j).toNatClampNeg = j := XT.n32 (by omega)
  have e3 : (Int32.ofNat len).toNatClampNeg = len := XT.n32 (by omega)
  have e4 : (Int32.ofNat vs.length).toNatClampNeg = vs.length := XT.n32 l1
  have e5 : (Int32.ofNat vd.length).toNatClampNeg = vd.length := XT.n32 l2
  obtain ⟨T', h', L, X', eT', N', K', A', stp⟩ := cpA X hc.1 hZ hown w1 w2 w3 w4 eT A1 B1 (us := (vs.drop i).take len) (Or.inl ⟨rfl, hty⟩) (Int32.ofNat_not_neg (by omega)) (Int32.ofNat_not_neg (by omega)) (Int32.ofNat_not_neg (by omega)) (by rw [e1, e3, e4]; exact h4) (by rw [e2, e3, e5]; exact h5) (by rw [e1, e3, take_drop _ _ _ _ h4]) (by rw [e2, e3]; exact h5) hN (hO b hb).1
    (g := mkF m pc Ls (.int (Int32.ofNat len) :: .int (Int32.ofNat j) :: .ref b :: .int (Int32.ofNat i) :: .ref a :: rest)) rfl (by rw [hc.2.2.1]; exact hsz) rfl (by rw [hc.2.1]; exact fnd_ok ok hf) hfr (W := (rest.map fun v => v.category).sum) (by show 2 * 0 + _ ≤ _; simp) hlo
  rw [e2, e3] at A'
  have C2 := CHr.keep K' (allS (hO b hb).2.2 all0) hC.1
  refine (K h' K' (Ar.of_arv A' ?_) p e s m args below meth c hc T' vm0 ⟨L, k0, X', eT', hS, Nat.le_trans hk K'.1, hZ, hown, hC.trans C2, N', Own.later C2 hO, q1, q2, ext_keep hX K' (allS (hO b hb).1 all0), hWH, hEL⟩).pre stp
  rw [e5]; simp; omega
end
end Jvm.Pilot.@@N@@.Kw
namespace Jvm.Pilot.@@N@@.Kw
open Jvm Jvm.ClassFile Sem Op Lib Jvm.Free Jvm.Stand Jvm.LawKit Jvm.RoadKit Bundle
/-! ## lists -/
theorem fill_step {cs : List Int32} {i : Nat} {c : Int32} (hc : cs[i]? = some c) (d : Value) (hd : d = .int 0) : (byt (cs.take i) ++ List.replicate (cs.length - i) d).set i (bt c) = byt (cs.take (i + 1)) ++ List.replicate (cs.length - (i + 1)) d := by
  have hi : i < cs.length := (List.getElem?_eq_some_iff.mp hc).1
  have e1 : (byt (cs.take i)).length = i := by simp; omega
  have e2 : cs.length - i = (cs.length - (i + 1)) + 1 := by omega
  rw [List.set_append_right _ _ (by rw [e1]; exact Nat.le_refl _), e1, Nat.sub_self, e2, List.replicate_succ, List.set_cons_zero, List.take_add_one, hc]
  simp
theorem list_all {xs ys : List Int32} (hl : xs.length = ys.length) (q : ∀ j, j < xs.length → xs[j]? = ys[j]?) : xs = ys := by
  apply List.ext_getElem? 
  intro j
  by_cases h : j < xs.length
  · exact q j h
  · rw [List.getElem?_eq_none (by omega), List.getElem?_eq_none (by omega)]
theorem Str.uniq {Z : State} {h : Heap} {a : Addr} {cs ds : List Int32} (S : Str Z h a cs) (T : Str Z h a ds) : cs = ds := by
  obtain ⟨q1, q2, q3, b, q4, q5⟩ := S
  obtain ⟨r1, r2, r3, d, r4, r5⟩ := T
  cases Fld.uniq q4 r4
  obtain ⟨c, A, e, -⟩ := q5
  obtain ⟨c', A', e', -⟩ := r5
  cases A.1.symm.trans A'.1
  refine byt_inj q1 r1 ?_
  have := e.symm.trans e'
  simpa using this
end Jvm.Pilot.@@N@@.Kw
namespace Jvm.Pilot.@@N@@.Kw
/-! ## the first place of a char from k on, as indexOf says it -/
def ixF : List Int32 → Int32 → Nat → Int32
  | [], _, _ => -1
  | x :: xs, c, k => if x = c then Int32.ofNat k else ixF xs c (k + 1)
theorem ixF_cons {cs : List Int32} {i : Nat} {x c : Int32} (q : cs[i]? = some x) : ixF (cs.drop i) c i = if x = c then Int32.ofNat i else ixF (cs.drop (i + 1)) c (i + 1) := by
  obtain ⟨hi, e⟩ := List.getElem?_eq_some_iff.mp q
  rw [List.drop_eq_getElem_cons hi, e]; rfl
end Jvm.Pilot.@@N@@.Kw
namespace Jvm.Pilot.@@N@@.Kw
open Jvm Jvm.ClassFile Sem Op Lib Jvm.Free Jvm.Stand Jvm.LawKit Jvm.RoadKit Bundle
/-- an array of known ints, read off the start's words -/
theorem ar_start {Z : State} {args : Array Value} {t : Term} {ty : FieldType} {vs : List Int32} (w0 : (Jvm.Cond.arrayOf t ty).before args Z = true) (w1 : (Jvm.Cond.eq (.length t) (.int (Int32.ofNat vs.length))).before args Z = true) (hl : vs.length < 2 ^ 31)
    (w2 : ∀ k v, vs[k]? = some v → (Jvm.Cond.eq (.elem t (.int (Int32.ofNat k))) (.int v)).before args Z = true) (hfit : ∀ v ∈ vs, fits ty (.int v) = true) : ∃ a, t.eval args Z none [] Z = some (.ref a) ∧ Ar Z Z.heap a ty (vs.map .int) := by
  have hlen := Cond.eq_int w1 rfl
  obtain ⟨sd, SA, hev, harrAt, -⟩ := Term.length_spec hlen
  have h31 := SBG.length_lt hev harrAt hlen
  have hsz : SA.slots.size = vs.length := by
    have e : (Term.length t).eval args Z none [] Z = some (.int (Int32.ofNat SA.slots.size)) := by simp [Term.eval, hev, harrAt, h31]
    have h2 : Int32.ofNat SA.slots.size = Int32.ofNat vs.length := by simpa using Option.some.inj (e.symm.trans hlen)
    exact (n_eq h31 hl).mp h2
  obtain ⟨c, A⟩ := Arr.start hev (Cond.before_iff.mp w0)
  have hcell : Z.heap[sd]? = some SA := by
    simp only [State.arrayAt?, Option.bind_eq_bind] at harrAt
    cases q : Z.heap[sd]? with
    | none => simp [q] at harrAt
    | some x => simp only [q, Option.bind_some] at harrAt; grind
  cases hcell.symm.trans A.1
  refine ⟨sd, hev, SA, A, ?_, by simpa using hl, fun v hv => ?_⟩
  · apply Array.ext_getElem?
    intro j
    by_cases hj : j < vs.length
    · have e0 : vs[j]? = some vs[j] := List.getElem?_eq_getElem hj
      have e1 := Cond.eq_int (w2 j _ e0) rfl
      rw [SBG.elem_at (ix := .int (Int32.ofNat j)) hev harrAt (by omega) h31 rfl] at e1
      rw [e1]; simp [e0]
    · have e1 : SA.slots[j]? = none := Array.getElem?_eq_none (by rw [hsz]; exact Nat.le_of_not_lt hj)
      have e2 : ((vs.map Value.int).toArray)[j]? = none := Array.getElem?_eq_none (by simpa using Nat.le_of_not_lt hj)
      rw [e1, e2]
  · obtain ⟨x, hx, rfl⟩ := List.mem_map.mp hv
    exact hfit x hx
end Jvm.Pilot.@@N@@.Kw
namespace Jvm.Pilot.@@N@@.Kw
def fx : List Int32 → Int32 → Nat → Option Nat
  | [], _, _ => none
  | x :: xs, c, k => if x = c then some k else fx xs c (k + 1)
theorem ixF_fx (c : Int32) : ∀ (cs : List Int32) (k : Nat), ixF cs c k = match fx cs c k with | some i => Int32.ofNat i | none => -1
  | [], _ => rfl
  | x :: xs, k => by
    unfold ixF fx
    split
    · rfl
    · exact ixF_fx c xs (k + 1)
theorem ixF_some {cs : List Int32} {c : Int32} {k i : Nat} (q : fx cs c k = some i) : ixF cs c k = Int32.ofNat i := by rw [ixF_fx, q]
theorem ixF_none {cs : List Int32} {c : Int32} {k : Nat} (q : fx cs c k = none) : ixF cs c k = -1 := by rw [ixF_fx, q]
theorem fx_spec (c : Int32) : ∀ (cs : List Int32) (k : Nat), (∃ i, fx cs c k = some (k + i) ∧ cs[i]? = some c ∧ ∀ j, j < i → cs[j]? ≠ some c) ∨ (fx cs c k = none ∧ ∀ j : Nat, cs[j]? ≠ some c)
  | [], _ => Or.inr ⟨rfl, fun j => by simp⟩
  | x :: xs, k => by
    by_cases hx : x = c
    · exact Or.inl ⟨0, by unfold fx; rw [if_pos hx]; rfl, by rw [hx]; rfl, fun j hj => absurd hj (Nat.not_lt_zero _)⟩
    · rcases fx_spec c xs (k + 1) with ⟨i, e1, e2, e3⟩ | ⟨e1, e2⟩
      · refine Or.inl ⟨i + 1, by unfold fx; rw [if_neg hx, e1]; congr 1; omega, by simpa using e2, fun j hj => ?_⟩
        cases j with
        | zero => simpa using hx
        | succ j => simpa using e3 j (by omega)
      · refine Or.inr ⟨by unfold fx; rw [if_neg hx, e1], fun j => ?_⟩
        cases j with
        | zero => simpa using hx
        | succ j => simpa using e2 j
theorem fx_drop (c : Int32) (cs : List Int32) (m : Nat) : (∃ i, fx (cs.drop m) c m = some i ∧ m ≤ i ∧ cs[i]? = some c ∧ ∀ j, m ≤ j → j < i → cs[j]? ≠ some c) ∨ (fx (cs.drop m) c m = none ∧ ∀ j, m ≤ j → cs[j]? ≠ some c) := by
  rcases fx_spec c (cs.drop m) m with ⟨i, e1, e2, e3⟩ | ⟨e1, e2⟩
  · refine Or.inl ⟨m + i, e1, by omega, by simpa using e2, fun j h1 h2 => ?_⟩
    have := e3 (j - m) (by omega)
    rw [List.getElem?_drop, show m + (j - m) = j by omega] at this; exact this
  · refine Or.inr ⟨e1, fun j h1 => ?_⟩
    have := e2 (j - m)
    rw [List.getElem?_drop, show m + (j - m) = j by omega] at this; exact this
/-- the first c from k on, in facts -/
theorem fx_of {cs : List Int32} {c : Int32} {o : Nat} (h1 : cs[o]? = some c) (h2 : ∀ j, j < o → cs[j]? ≠ some c) : fx cs c 0 = some o := by
  rcases fx_spec c cs 0 with ⟨i, e1, e2, e3⟩ | ⟨e1, e2⟩
  · rw [e1, Nat.zero_add]
    rcases Nat.lt_trichotomy i o with q | q | q
    · exact absurd e2 (h2 i q)
    · rw [q]
    · exact absurd h1 (e3 o q)
  · exact absurd h1 (e2 o)
theorem fx_no {cs : List Int32} {c : Int32} (h : ∀ j : Nat, cs[j]? ≠ some c) : fx cs c 0 = none := by
  rcases fx_spec c cs 0 with ⟨i, e1, e2, e3⟩ | ⟨e1, e2⟩
  · exact absurd e2 (h i)
  · exact e1
/-- the hash tag's braces: the first '{' and the first '}' behind it, where a char stands between -/
def tg (ks : List Int32) : Option (Nat × Nat) := match fx ks 123 0 with
  | none => none
  | some o => (match fx (ks.drop (o + 1)) 125 (o + 1) with | some c => if o + 1 < c then some (o, c) else none | none => none)
theorem tg_no1 {ks : List Int32} (h : ∀ i : Nat, ks[i]? ≠ some 123) : tg ks = none := by unfold tg; rw [fx_no h]
theorem tg_no3 {ks : List Int32} {o : Nat} (h1 : ks[o]? = some 123) (h2 : ∀ j, j < o → ks[j]? ≠ some 123) (h : ∀ j, o + 1 ≤ j → ks[j]? ≠ some 125) : tg ks = none := by
  unfold tg; rw [fx_of h1 h2]
  rcases fx_drop 125 ks (o + 1) with ⟨i, e1, e2, e3, e4⟩ | ⟨e1, e2⟩
  · exact absurd e3 (h i e2)
  · simp only [e1]
theorem tg_no2 {ks : List Int32} {o : Nat} (h1 : ks[o]? = some 123) (h2 : ∀ j, j < o → ks[j]? ≠ some 123) (h : ks[o + 1]? = some 125) : tg ks = none := by
  unfold tg; rw [fx_of h1 h2]
  rcases fx_drop 125 ks (o + 1) with ⟨i, e1, e2, e3, e4⟩ | ⟨e1, e2⟩
  · simp only [e1]
    rw [if_neg]
    intro q
    exact e4 (o + 1) (Nat.le_refl _) q h
  · simp only [e1]
theorem tg_yes {ks : List Int32} {o j : Nat} (h1 : ks[o]? = some 123) (h2 : ∀ j, j < o → ks[j]? ≠ some 123) (h3 : ks[o + 1]? ≠ some 125) (h4 : o + 1 ≤ j) (h5 : ks[j]? = some 125) : ∃ c, tg ks = some (o, c) := by
  unfold tg; rw [fx_of h1 h2]
  rcases fx_drop 125 ks (o + 1) with ⟨i, e1, e2, e3, e4⟩ | ⟨e1, e2⟩
  · refine ⟨i, ?_⟩
    simp only [e1]
    rw [if_pos]
    rcases Nat.lt_or_eq_of_le e2 with q | q
    · exact q
    · rw [← q] at e3; exact absurd e3 h3
  · exact absurd h5 (e2 j h4)
theorem tg_inv {ks : List Int32} {o c : Nat} (h : tg ks = some (o, c)) : fx ks 123 0 = some o ∧ fx (ks.drop (o + 1)) 125 (o + 1) = some c ∧ o + 1 < c ∧ c < ks.length ∧ o < ks.length ∧ ks[o]? = some 123 ∧ ks[c]? = some 125 ∧ (∀ j, j < o → ks[j]? ≠ some 123) ∧ ∀ j, o + 1 ≤ j → j < c → ks[j]? ≠ some 125 := by
  unfold tg at h
  rcases fx_spec 123 ks 0 with ⟨i, e1, e2, e3⟩ | ⟨e1, e2⟩
  · rw [e1] at h
    rw [Nat.zero_add] at h e1
    rcases fx_drop 125 ks (i + 1) with ⟨d, f1, f2, f3, f4⟩ | ⟨f1, f2⟩
    · simp only [f1] at h
      split at h
      · rename_i q
        simp only [Option.some.injEq, Prod.mk.injEq] at h
        obtain ⟨rfl, rfl⟩ := h
        exact ⟨e1, f1, q, (List.getElem?_eq_some_iff.mp f3).1, (List.getElem?_eq_some_iff.mp e2).1, e2, f3, e3, f4⟩
      · cases h
    · simp only [f1] at h; cases h
  · rw [e1] at h; cases h
/-- where there is no tag: no '{', or no '}' behind it, or it stands right behind -/
theorem tg_none {ks : List Int32} (h : tg ks = none) : fx ks 123 0 = none ∨ ∃ o, fx ks 123 0 = some o ∧ o < ks.length ∧ (fx (ks.drop (o + 1)) 125 (o + 1) = none ∨ fx (ks.drop (o + 1)) 125 (o + 1) = some (o + 1)) := by
  unfold tg at h
  rcases fx_spec 123 ks 0 with ⟨i, e1, e2, e3⟩ | ⟨e1, e2⟩
  · rw [e1] at h
    rw [Nat.zero_add] at h e1
    refine Or.inr ⟨i, e1, (List.getElem?_eq_some_iff.mp e2).1, ?_⟩
    rcases fx_drop 125 ks (i + 1) with ⟨d, f1, f2, f3, f4⟩ | ⟨f1, f2⟩
    · simp only [f1] at h
      split at h
      · cases h
      · rename_i q; exact Or.inr (by rw [f1]; congr 1; omega)
    · exact Or.inl f1
  · exact Or.inl e1
end Jvm.Pilot.@@N@@.Kw
namespace Jvm.Pilot.@@N@@
open Jvm Jvm.ClassFile Sem Op Lib Jvm.Free Jvm.Stand Jvm.LawKit Jvm.RoadKit Bundle Jvm.Pilot.@@N@@.Jvm.D Jvm.Pilot.@@N@@.Kw
abbrev EL1 : List (String × Nat) := consts_1
def Gd (Z : State) (a0 : Array Value) : Prop := (∀ d ∈ tables_1, d.before a0 Z = true) ∧ EW Z a0 EL1 ∧ (∃ v, Sta Z Z.heap "java/lang/String" "COMPACT_STRINGS" "Z" (.int v) ∧ ¬ v = 0) ∧ (∃ f, Sta Z Z.heap "jdk/internal/util/Preconditions" "SIOOBE_FORMATTER" "Ljava/util/function/BiFunction;" f ∧ f.isRef = true) ∧ True
theorem wS {Z : State} {a0 : Array Value} (G : Gd Z a0) : ∀ a ∈ Bundle.stringAtoms, a.before a0 Z = true := by
  intro a ha
  simp only [Bundle.stringAtoms, List.mem_cons, List.not_mem_nil, or_false] at ha
  rcases ha with rfl | rfl | rfl | rfl | rfl | rfl | rfl
  · exact (G.1 _ (List.mem_of_getElem? (i := 8) rfl))
  · exact (G.1 _ (List.mem_of_getElem? (i := 7) rfl))
  · exact (G.1 _ (List.mem_of_getElem? (i := 24) rfl))
  · exact (G.1 _ (List.mem_of_getElem? (i := 34) rfl))
  · exact (G.1 _ (List.mem_of_getElem? (i := 32) rfl))
  · exact (G.1 _ (List.mem_of_getElem? (i := 84) rfl))
  · exact (G.1 _ (List.mem_of_getElem? (i := 85) rfl))
abbrev mt_cmp5 : Mth := (⟨"java/lang/StringUTF16", "compress", "([CI[BII)I"⟩, jdk_52_method_21_code, 7, some .int)
def tb_cmp5 : Tab := [(0, .iconst 0, 1), (1, .istore 5, 2), (3, .iload 5, 2), (5, .iload 4, 2), (7, .if_icmp .ge 37, 3), (10, .aload_n 0, 1), (11, .iload_n 1, 1), (12, .caload, 1), (13, .istore 6, 2), (15, .iload 6, 2), (17, .sipush 255, 3), (20, .if_icmp .le 6, 3), (23, .iload 5, 2), (25, .ireturn, 1), (26, .aload_n 2, 1), (27, .iload_n 3, 1), (28, .iload 6, 2), (30, .i2b, 1), (31, .bastore, 1), (32, .iinc 1 1, 3), (35, .iinc 3 1, 3), (38, .iinc 5 1, 3), (41, .goto (-38), 3), (44, .iload 4, 2), (46, .ireturn, 1)]
theorem ok_cmp5 : TabOk mt_cmp5.2.1 tb_cmp5 := by
  intro x hx
  have q : tb_cmp5.all (fun x => decide (decode jdk_52_method_21_code x.1 = .ok x.2)) = true := by decide +kernel
  exact of_decide_eq_true (List.all_eq_true.mp q x hx)
theorem pl_cmp5 : plainFor mt_cmp5.1 = true := by first | decide +kernel | exact plainFor_of_name (by first | (simp [plainName, overriddenIn]; done) | decide +kernel)
theorem pd_cmp5 : parseMethodDescriptor "([CI[BII)I" = some ⟨[(.array .char), .int, (.array .byte), .int, .int], some .int⟩ := by decide +kernel

set_option maxRecDepth 65536 in
set_option maxHeartbeats 4000000 in
theorem lp_cmp5 {l : Launch} {Z : State} {a0 : Array Value} (G : Gd Z a0) {b d : Addr} {cs : List Int32} {h : Heap} (hlat : Lat cs) (hl31 : cs.length < 2 ^ 31) (A : Ar Z h b .char (cs.map .int)) (hbd : b ≠ d) : ∀ (r i : Nat), i + r = cs.length → ∀ (z : Slot), Sl1 z → ∀ h1, Keep h h1 [d] → Ar Z h1 d .byte (byt (cs.take i) ++ List.replicate (cs.length - i) (.int 0)) →
    Wp l Z EL1 mt_cmp5 ({ frames := 0, cells := 0, slots := 0, locals := 0 } : Room) h1 [d] 0 0 3 #[.val (.ref b), .val (.int (Int32.ofNat i)), .val (.ref d), .val (.int (Int32.ofNat i)), .val (.int (Int32.ofNat cs.length)), .val (.int (Int32.ofNat i)), z] [] (fun v h' => v = some (.int (Int32.ofNat cs.length)) ∧ Keep h h' [d] ∧ Ar Z h' d .byte (byt cs)) := by
  intro r
  induction r with
  | zero =>
    intro i hi z hz h1 K1 B1
    obtain rfl : i = cs.length := by omega
    refine Wp.run ok_cmp5 2 7 #[.val (.ref b), .val (.int (Int32.ofNat cs.length)), .val (.ref d), .val (.int (Int32.ofNat cs.length)), .val (.int (Int32.ofNat cs.length)), .val (.int (Int32.ofNat cs.length)), z] [(.int (Int32.ofNat cs.length)), (.int (Int32.ofNat cs.length))] rfl ?_
    refine Wp.icmpT ok_cmp5 44 rfl rfl (show ¬ (Int32.ofNat cs.length) < (Int32.ofNat cs.length) from Int32.lt_irrefl) (by decide) (by decide) ?_
    refine Wp.run ok_cmp5 1 46 #[.val (.ref b), .val (.int (Int32.ofNat cs.length)), .val (.ref d), .val (.int (Int32.ofNat cs.length)), .val (.int (Int32.ofNat cs.length)), .val (.int (Int32.ofNat cs.length)), z] [(.int (Int32.ofNat cs.length))] rfl ?_
    exact Wp.retI ok_cmp5 (t := .int) rfl (by decide) rfl rfl rfl ⟨rfl, K1, by simpa using B1⟩
  | succ r ih =>
    intro i hi z hz h1 K1 B1
    obtain ⟨c, hc⟩ : ∃ c, cs[i]? = some c := ⟨_, List.getElem?_eq_getElem (by omega)⟩
    refine Wp.run ok_cmp5 2 7 #[.val (.ref b), .val (.int (Int32.ofNat i)), .val (.ref d), .val (.int (Int32.ofNat i)), .val (.int (Int32.ofNat cs.length)), .val (.int (Int32.ofNat i)), z] [(.int (Int32.ofNat cs.length)), (.int (Int32.ofNat i))] rfl ?_
    refine Wp.icmpF ok_cmp5 rfl rfl (show (Int32.ofNat i) < (Int32.ofNat cs.length) from (n_lt (by omega) (by omega)).mpr (by omega)) ?_
    refine Wp.run ok_cmp5 2 12 #[.val (.ref b), .val (.int (Int32.ofNat i)), .val (.ref d), .val (.int (Int32.ofNat i)), .val (.int (Int32.ofNat cs.length)), .val (.int (Int32.ofNat i)), z] [(.int (Int32.ofNat i)), (.ref b)] rfl ?_
    refine Wp.aget ok_cmp5 (A.keep K1 (ninS hbd nin0)) (i := i) (v := (.int c)) rfl (by simp [hc]) rfl rfl rfl ?_
    refine Wp.istoreS ok_cmp5 hz rfl rfl rfl ?_
    refine Wp.run ok_cmp5 2 20 #[.val (.ref b), .val (.int (Int32.ofNat i)), .val (.ref d), .val (.int (Int32.ofNat i)), .val (.int (Int32.ofNat cs.length)), .val (.int (Int32.ofNat i)), .val (.int c)] [(.int (255 : Int32)), (.int c)] rfl ?_
    refine Wp.icmpT ok_cmp5 26 rfl rfl (show ¬ (255 : Int32) < c from Int32.not_lt.mpr (Int32.le_iff_toInt_le.mpr (by have := (hlat.at hc).2; simpa using this))) (by decide) (by decide) ?_
    refine Wp.run ok_cmp5 4 31 #[.val (.ref b), .val (.int (Int32.ofNat i)), .val (.ref d), .val (.int (Int32.ofNat i)), .val (.int (Int32.ofNat cs.length)), .val (.int (Int32.ofNat i)), .val (.int c)] [(.int (lo8 c)), (.int (Int32.ofNat i)), (.ref d)] rfl ?_
    refine Wp.aput ok_cmp5 B1 (List.mem_of_getElem? (i := 0) rfl) (i := i) rfl (by simp; omega) rfl (fits_bt c) rfl rfl rfl ?_
    intro h2 w2 B2
    refine Wp.run ok_cmp5 4 3 #[.val (.ref b), .val (.int ((Int32.ofNat i) + (1 : Int32))), .val (.ref d), .val (.int ((Int32.ofNat i) + (1 : Int32))), .val (.int (Int32.ofNat cs.length)), .val (.int ((Int32.ofNat i) + (1 : Int32))), .val (.int c)] [] rfl ?_
    refine Wp.at #[.val (.ref b), .val (.int (Int32.ofNat (i + 1))), .val (.ref d), .val (.int (Int32.ofNat (i + 1))), .val (.int (Int32.ofNat cs.length)), .val (.int (Int32.ofNat (i + 1))), .val (.int c)] [] ⟨by simp only [n_succ], rfl⟩ ?_
    refine ih (i + 1) (by omega) _ (Sl1.int _) h2 (K1.trans (wr_keep w2) (fun x hx => Or.inl hx)) ?_
    have q : (byt (cs.take i) ++ List.replicate (cs.length - i) (Value.int 0)).set i (bt c) = byt (cs.take (i + 1)) ++ List.replicate (cs.length - (i + 1)) (Value.int 0) := fill_step hc _ rfl
    rw [← q]; exact B2

set_option maxRecDepth 65536 in
set_option maxHeartbeats 4000000 in
theorem ct_cmp5 {l : Launch} {Z : State} {a0 : Array Value} (G : Gd Z a0) {b d : Addr} {cs : List Int32} (hlat : Lat cs) (h : Heap) (hl31 : cs.length < 2 ^ 31) (A : Ar Z h b .char (cs.map .int)) (B : Ar Z h d .byte (List.replicate cs.length (.int 0))) :
    Ct l Z EL1 mt_cmp5 ({ frames := 0, cells := 0, slots := 0, locals := 0 } : Room) #[(.ref b), (.int 0), (.ref d), (.int 0), (.int (Int32.ofNat cs.length))] h [d] (fun v h' => v = some (.int (Int32.ofNat cs.length)) ∧ Keep h h' [d] ∧ Ar Z h' d .byte (byt cs)) := by
  refine Ct.of_wp pl_cmp5 G.2.1 (Ls := #[.val (.ref b), .val (.int 0), .val (.ref d), .val (.int 0), .val (.int (Int32.ofNat cs.length)), .unset, .unset]) rfl ?_
  refine Wp.run ok_cmp5 2 3 #[.val (.ref b), .val (.int 0), .val (.ref d), .val (.int 0), .val (.int (Int32.ofNat cs.length)), .val (.int (0 : Int32)), .unset] [] rfl ?_
  refine Wp.at #[.val (.ref b), .val (.int 0), .val (.ref d), .val (.int 0), .val (.int (Int32.ofNat cs.length)), .val (.int (0 : Int32)), .unset] [] ⟨rfl, rfl⟩ ?_
  exact lp_cmp5 G hlat hl31 A (fun q => by subst q; obtain ⟨c1, A1, -⟩ := A; obtain ⟨c2, A2, -⟩ := B; exact absurd (arr_ty A1 A2) (by decide)) cs.length 0 (by omega) _ Sl1.unset h (Keep.refl _ _) (by simpa using B)

abbrev mt_cmp3 : Mth := (⟨"java/lang/StringUTF16", "compress", "([CII)[B"⟩, jdk_52_method_16_code, 6, some (.array .byte))
def tb_cmp3 : Tab := [(0, .iload_n 2, 1), (1, .newarray .byte, 2), (3, .astore_n 3, 1), (4, .aload_n 0, 1), (5, .iload_n 1, 1), (6, .aload_n 3, 1), (7, .iconst 0, 1), (8, .iload_n 2, 1), (9, .invokestatic 115, 3), (12, .istore 4, 2), (14, .iload 4, 2), (16, .iload_n 2, 1), (17, .if_icmp .eq 40, 3), (20, .aload_n 0, 1), (21, .iload_n 1, 1), (22, .iload_n 2, 1), (23, .invokestatic 119, 3), (26, .astore 5, 2), (28, .aload 5, 2), (30, .iload 4, 2), (32, .invokestatic 71, 3), (35, .sipush 255, 3), (38, .if_icmp .gt 16, 3), (41, .aload 5, 2), (43, .iconst 0, 1), (44, .aload_n 3, 1), (45, .iconst 0, 1), (46, .iload_n 2, 1), (47, .invokestatic 123, 3), (50, .iload_n 2, 1), (51, .if_icmp .eq 6, 3), (54, .aload 5, 2), (56, .areturn, 1), (57, .aload_n 3, 1), (58, .areturn, 1)]
theorem ok_cmp3 : TabOk mt_cmp3.2.1 tb_cmp3 := by
  intro x hx
  have q : tb_cmp3.all (fun x => decide (decode jdk_52_method_16_code x.1 = .ok x.2)) = true := by decide +kernel
  exact of_decide_eq_true (List.all_eq_true.mp q x hx)
theorem pl_cmp3 : plainFor mt_cmp3.1 = true := by first | decide +kernel | exact plainFor_of_name (by first | (simp [plainName, overriddenIn]; done) | decide +kernel)
theorem pd_cmp3 : parseMethodDescriptor "([CII)[B" = some ⟨[(.array .char), .int, .int], some (.array .byte)⟩ := by decide +kernel

set_option maxRecDepth 65536 in
set_option maxHeartbeats 4000000 in
theorem ct_cmp3 {l : Launch} {Z : State} {a0 : Array Value} (G : Gd Z a0) {b : Addr} {cs : List Int32} (hlat : Lat cs) (hcap : cs.length ≤ 16) (h : Heap) (A : Ar Z h b .char (cs.map .int)) :
    Ct l Z EL1 mt_cmp3 ({ frames := 1, cells := 1, slots := 16, locals := 18 } : Room) #[(.ref b), (.int 0), (.int (Int32.ofNat cs.length))] h [] (fun v h' => ∃ d, v = some (.ref d) ∧ Ext h h' ∧ Ar Z h' d .byte (byt cs) ∧ h.size ≤ d) := by
  refine Ct.of_wp pl_cmp3 G.2.1 (Ls := #[.val (.ref b), .val (.int 0), .val (.int (Int32.ofNat cs.length)), .unset, .unset, .unset]) rfl ?_
  refine Wp.run ok_cmp3 1 1 #[.val (.ref b), .val (.int 0), .val (.int (Int32.ofNat cs.length)), .unset, .unset, .unset] [(.int (Int32.ofNat cs.length))] rfl ?_
  refine Wp.newP ok_cmp3 (len := cs.length) (cap := 16) (G.1 _ (List.mem_of_getElem? (i := 24) rfl)) rfl rfl rfl hcap (Nat.le_of_ble_eq_true rfl) (Nat.le_of_ble_eq_true rfl) (Nat.le_of_ble_eq_true rfl) ?_
  intro h1 E1 B1
  refine Wp.run ok_cmp3 6 9 #[.val (.ref b), .val (.int 0), .val (.int (Int32.ofNat cs.length)), .val (.ref h.size), .unset, .unset] [(.int (Int32.ofNat cs.length)), (.int (0 : Int32)), (.ref h.size), (.int 0), (.ref b)] rfl ?_
  refine Wp.callS ok_cmp3 (argsL := [(.ref b), (.int 0), (.ref h.size), (.int (0 : Int32)), (.int (Int32.ofNat cs.length))]) (rest := []) (ct_cmp5 G hlat h1 (by omega) (A.ext E1) B1) G.2.1 (G.1 _ (List.mem_of_getElem? (i := 25) rfl)) (G.1 _ (List.mem_of_getElem? (i := 26) rfl)) (G.1 _ (List.mem_of_getElem? (i := 22) rfl)) (G.1 _ (List.mem_of_getElem? (i := 27) rfl)) rfl rfl (by decide) pd_cmp5 rfl rfl (Nat.le_of_ble_eq_true rfl) (Nat.le_of_ble_eq_true rfl) (Nat.le_of_ble_eq_true rfl) (Nat.le_of_ble_eq_true rfl) (allS (List.mem_of_getElem? (i := 0) rfl) all0) ?_
  rintro _ h2 ⟨rfl, K2, B2⟩ -
  refine Wp.run ok_cmp3 3 17 #[.val (.ref b), .val (.int 0), .val (.int (Int32.ofNat cs.length)), .val (.ref h.size), .val (.int (Int32.ofNat cs.length)), .unset] [(.int (Int32.ofNat cs.length)), (.int (Int32.ofNat cs.length))] rfl ?_
  refine Wp.icmpT ok_cmp3 57 rfl rfl (show (Int32.ofNat cs.length) = (Int32.ofNat cs.length) from rfl) (by decide) (by decide) ?_
  refine Wp.run ok_cmp3 1 58 #[.val (.ref b), .val (.int 0), .val (.int (Int32.ofNat cs.length)), .val (.ref h.size), .val (.int (Int32.ofNat cs.length)), .unset] [(.ref h.size)] rfl ?_
  exact Wp.retA ok_cmp3 (t := (.array .byte)) rfl rfl rfl rfl rfl ⟨_, rfl, ext_keep E1 K2 (all1 (Nat.le_refl _)), B2, Nat.le_refl _⟩

abbrev mt_cfal : Mth := (⟨"java/lang/StringUTF16", "coderFromArrayLen", "([BI)B"⟩, jdk_52_method_15_code, 2, some .byte)
def tb_cfal : Tab := [(0, .iload_n 1, 1), (1, .aload_n 0, 1), (2, .arraylength, 1), (3, .isub, 1), (4, .bipush 31, 2), (6, .iushr, 1), (7, .i2b, 1), (8, .ireturn, 1)]
theorem ok_cfal : TabOk mt_cfal.2.1 tb_cfal := by
  intro x hx
  have q : tb_cfal.all (fun x => decide (decode jdk_52_method_15_code x.1 = .ok x.2)) = true := by decide +kernel
  exact of_decide_eq_true (List.all_eq_true.mp q x hx)
theorem pl_cfal : plainFor mt_cfal.1 = true := by first | decide +kernel | exact plainFor_of_name (by first | (simp [plainName, overriddenIn]; done) | decide +kernel)
theorem pd_cfal : parseMethodDescriptor "([BI)B" = some ⟨[(.array .byte), .int], some .byte⟩ := by decide +kernel

set_option maxRecDepth 65536 in
set_option maxHeartbeats 4000000 in
theorem ct_cfal {l : Launch} {Z : State} {a0 : Array Value} (G : Gd Z a0) {d : Addr} {vs : List Value} (h : Heap) (B : Ar Z h d .byte vs) :
    Ct l Z EL1 mt_cfal ({ frames := 0, cells := 0, slots := 0, locals := 0 } : Room) #[(.ref d), (.int (Int32.ofNat vs.length))] h [] (fun v h' => v = some (.int 0) ∧ h = h') := by
  refine Ct.of_wp pl_cfal G.2.1 (Ls := #[.val (.ref d), .val (.int (Int32.ofNat vs.length))]) rfl ?_
  refine Wp.run ok_cfal 2 2 #[.val (.ref d), .val (.int (Int32.ofNat vs.length))] [(.ref d), (.int (Int32.ofNat vs.length))] rfl ?_
  refine Wp.alen ok_cfal B rfl rfl ?_
  refine Wp.run ok_cfal 4 8 #[.val (.ref d), .val (.int (Int32.ofNat vs.length))] [(.int (lo8 (ush ((Int32.ofNat vs.length) - (Int32.ofNat vs.length)) (31 : Int32))))] rfl ?_
  have q : lo8 (ush (Int32.ofNat vs.length - Int32.ofNat vs.length) 31) = 0 := by rw [Int32.sub_self]; decide
  refine Wp.at #[.val (.ref d), .val (.int (Int32.ofNat vs.length))] [(.int 0)] ⟨rfl, (by rw [show lo8 (ush (Int32.ofNat vs.length - Int32.ofNat vs.length) (31 : Int32)) = 0 from q] <;> rfl)⟩ ?_
  exact Wp.retI ok_cfal (t := .byte) rfl (by decide) rfl rfl rfl ⟨rfl, rfl⟩

abbrev mt_si4 : Mth := (⟨"java/lang/String", "<init>", "([CIILjava/lang/Void;)V"⟩, jdk_42_method_149_code, 6, none)
def tb_si4 : Tab := [(0, .aload_n 0, 1), (1, .invokespecial 1, 3), (4, .iload_n 3, 1), (5, .ifCond .ne 22, 3), (8, .aload_n 0, 1), (9, .ldc 7, 2), (11, .getfield 9, 3), (14, .putfield 9, 3), (17, .aload_n 0, 1), (18, .ldc 7, 2), (20, .getfield 15, 3), (23, .putfield 15, 3), (26, .return_, 1), (27, .getstatic 38, 3), (30, .ifCond .eq 28, 3), (33, .aload_n 1, 1), (34, .iload_n 2, 1), (35, .iload_n 3, 1), (36, .invokestatic 177, 3), (39, .astore 5, 2), (41, .aload_n 0, 1), (42, .aload 5, 2), (44, .iload_n 3, 1), (45, .invokestatic 47, 3), (48, .putfield 15, 3), (51, .aload_n 0, 1), (52, .aload 5, 2), (54, .putfield 9, 3), (57, .return_, 1), (58, .aload_n 0, 1), (59, .iconst 1, 1), (60, .putfield 15, 3), (63, .aload_n 0, 1), (64, .aload_n 1, 1), (65, .iload_n 2, 1), (66, .iload_n 3, 1), (67, .invokestatic 180, 3), (70, .putfield 9, 3), (73, .return_, 1)]
theorem ok_si4 : TabOk mt_si4.2.1 tb_si4 := by
  intro x hx
  have q : tb_si4.all (fun x => decide (decode jdk_42_method_149_code x.1 = .ok x.2)) = true := by decide +kernel
  exact of_decide_eq_true (List.all_eq_true.mp q x hx)
theorem pl_si4 : plainFor mt_si4.1 = true := by first | decide +kernel | exact plainFor_of_name (by first | (simp [plainName, overriddenIn]; done) | decide +kernel)
theorem pd_si4 : parseMethodDescriptor "([CIILjava/lang/Void;)V" = some ⟨[(.array .char), .int, .int, (.object "java/lang/Void")], none⟩ := by decide +kernel

set_option maxRecDepth 65536 in
set_option maxHeartbeats 4000000 in
theorem ct_si4 {l : Launch} {Z : State} {a0 : Array Value} (G : Gd Z a0) {a b : Addr} {cs : List Int32} (hlat : Lat cs) (hcap : cs.length ≤ 16) (hne : cs ≠ []) (h : Heap) (X0 : Exa Z h a "java/lang/String") (F1 : Fld Z h a "java/lang/String" "coder" "B" (.int 0)) {v0 : Value} (F2 : Fld Z h a "java/lang/String" "value" "[B" v0) (A : Ar Z h b .char (cs.map .int)) :
    Ct l Z EL1 mt_si4 ({ frames := 2, cells := 1, slots := 16, locals := 35 } : Room) #[(.ref a), (.ref b), (.int 0), (.int (Int32.ofNat cs.length)), .null] h [a] (fun v h' => v = none ∧ Keep h h' [a] ∧ Str Z h' a cs) := by
  refine Ct.of_wp pl_si4 G.2.1 (Ls := #[.val (.ref a), .val (.ref b), .val (.int 0), .val (.int (Int32.ofNat cs.length)), .val .null, .unset]) rfl ?_
  refine Wp.run ok_si4 1 1 #[.val (.ref a), .val (.ref b), .val (.int 0), .val (.int (Int32.ofNat cs.length)), .val .null, .unset] [(.ref a)] rfl ?_
  refine Wp.initO ok_si4 (G.1 _ (List.mem_of_getElem? (i := 16) rfl)) (G.1 _ (List.mem_of_getElem? (i := 17) rfl)) (G.1 _ (List.mem_of_getElem? (i := 18) rfl)) rfl rfl rfl (Nat.le_of_ble_eq_true rfl) (Nat.le_of_ble_eq_true rfl) ?_
  refine Wp.run ok_si4 1 5 #[.val (.ref a), .val (.ref b), .val (.int 0), .val (.int (Int32.ofNat cs.length)), .val .null, .unset] [(.int (Int32.ofNat cs.length))] rfl ?_
  refine Wp.ifT ok_si4 27 rfl rfl (show ¬ (Int32.ofNat cs.length) = (0 : Int32) from fun q => hne (List.length_eq_zero_iff.mp ((n_eq (by omega) (by decide)).mp q))) (by decide) (by decide) ?_
  obtain ⟨vC, fC, nC⟩ := G.2.2.1
  refine Wp.getS ok_si4 fC (G.1 _ (List.mem_of_getElem? (i := 19) rfl)) Via.refl rfl ?_
  refine Wp.ifF ok_si4 rfl rfl (show ¬ vC = (0 : Int32) from nC) ?_
  refine Wp.run ok_si4 3 36 #[.val (.ref a), .val (.ref b), .val (.int 0), .val (.int (Int32.ofNat cs.length)), .val .null, .unset] [(.int (Int32.ofNat cs.length)), (.int 0), (.ref b)] rfl ?_
  refine Wp.callS ok_si4 (argsL := [(.ref b), (.int 0), (.int (Int32.ofNat cs.length))]) (rest := []) (ct_cmp3 G hlat hcap h A) G.2.1 (G.1 _ (List.mem_of_getElem? (i := 20) rfl)) (G.1 _ (List.mem_of_getElem? (i := 21) rfl)) (G.1 _ (List.mem_of_getElem? (i := 22) rfl)) (G.1 _ (List.mem_of_getElem? (i := 23) rfl)) rfl rfl (by decide) pd_cmp3 rfl rfl (Nat.le_of_ble_eq_true rfl) (Nat.le_of_ble_eq_true rfl) (Nat.le_of_ble_eq_true rfl) (Nat.le_of_ble_eq_true rfl) all0 ?_
  rintro _ h1 ⟨d, rfl, E1, B1, hd⟩ -
  refine Wp.run ok_si4 4 45 #[.val (.ref a), .val (.ref b), .val (.int 0), .val (.int (Int32.ofNat cs.length)), .val .null, .val (.ref d)] [(.int (Int32.ofNat cs.length)), (.ref d), (.ref a)] rfl ?_
  have e0 : Int32.ofNat cs.length = Int32.ofNat (byt cs).length := by simp
  refine Wp.at #[.val (.ref a), .val (.ref b), .val (.int 0), .val (.int (Int32.ofNat cs.length)), .val .null, .val (.ref d)] [(.int (Int32.ofNat (byt cs).length)), (.ref d), (.ref a)] ⟨rfl, (by rw [← e0] <;> rfl)⟩ ?_
  refine Wp.callS ok_si4 (argsL := [(.ref d), (.int (Int32.ofNat (byt cs).length))]) (rest := [(.ref a)]) (ct_cfal G h1 B1) G.2.1 (G.1 _ (List.mem_of_getElem? (i := 28) rfl)) (G.1 _ (List.mem_of_getElem? (i := 29) rfl)) (G.1 _ (List.mem_of_getElem? (i := 22) rfl)) (G.1 _ (List.mem_of_getElem? (i := 30) rfl)) rfl rfl (by decide) pd_cfal rfl rfl (Nat.le_of_ble_eq_true rfl) (Nat.le_of_ble_eq_true rfl) (Nat.le_of_ble_eq_true rfl) (Nat.le_of_ble_eq_true rfl) all0 ?_
  rintro _ _ ⟨rfl, rfl⟩ -
  refine Wp.putF ok_si4 (ty := .byte) (F1.ext E1) (X0.ext E1) (List.mem_of_getElem? (i := 0) rfl) (G.1 _ (List.mem_of_getElem? (i := 31) rfl)) Via.refl (Or.inr ⟨(G.1 _ (List.mem_of_getElem? (i := 32) rfl)), rfl, rfl⟩) (G.1 _ (List.mem_of_getElem? (i := 7) rfl)) (by decide) rfl rfl rfl ?_
  intro h2 w2
  refine Wp.run ok_si4 2 54 #[.val (.ref a), .val (.ref b), .val (.int 0), .val (.int (Int32.ofNat cs.length)), .val .null, .val (.ref d)] [(.ref d), (.ref a)] rfl ?_
  refine Wp.putF ok_si4 (ty := (.array .byte)) ((F2.ext E1).other w2 (Or.inr (slot_ne (Or.inr (G.1 _ (List.mem_of_getElem? (i := 34) rfl))) (Or.inr (G.1 _ (List.mem_of_getElem? (i := 32) rfl))) (by decide) (t := (.array .byte)) (t' := .byte) (by decide) (by decide)))) ((X0.ext E1).wr w2) (List.mem_of_getElem? (i := 0) rfl) (G.1 _ (List.mem_of_getElem? (i := 33) rfl)) Via.refl (Or.inr ⟨(G.1 _ (List.mem_of_getElem? (i := 34) rfl)), rfl, rfl⟩) (G.1 _ (List.mem_of_getElem? (i := 7) rfl)) (by decide) rfl rfl rfl ?_
  intro h3 w3
  have hda : d ≠ a := fun q => by subst q; exact absurd X0.lt (Nat.not_lt.mpr hd)
  exact Wp.ret0 ok_si4 rfl rfl rfl ⟨rfl, (((Keep.refl h [a]).ext E1).trans (wr_keep w2) (fun x hx => Or.inl hx)).trans (wr_keep w3) (fun x hx => Or.inl hx), hlat, ((X0.ext E1).wr w2).wr w3, ((F1.ext E1).same w2).other w3 (Or.inr (slot_ne (Or.inr (G.1 _ (List.mem_of_getElem? (i := 32) rfl))) (Or.inr (G.1 _ (List.mem_of_getElem? (i := 34) rfl))) (by decide) (t := .byte) (t' := (.array .byte)) (by decide) (by decide))), d, ((F2.ext E1).other w2 (Or.inr (slot_ne (Or.inr (G.1 _ (List.mem_of_getElem? (i := 34) rfl))) (Or.inr (G.1 _ (List.mem_of_getElem? (i := 32) rfl))) (by decide) (t := (.array .byte)) (t' := .byte) (by decide) (by decide)))).same w3, (B1.other w2 hda).other w3 hda⟩

abbrev mt_si1 : Mth := (⟨"java/lang/String", "<init>", "([C)V"⟩, jdk_42_method_3_code, 2, none)
def tb_si1 : Tab := [(0, .aload_n 0, 1), (1, .aload_n 1, 1), (2, .iconst 0, 1), (3, .aload_n 1, 1), (4, .arraylength, 1), (5, .aconst_null, 1), (6, .invokespecial 27, 3), (9, .return_, 1)]
theorem ok_si1 : TabOk mt_si1.2.1 tb_si1 := by
  intro x hx
  have q : tb_si1.all (fun x => decide (decode jdk_42_method_3_code x.1 = .ok x.2)) = true := by decide +kernel
  exact of_decide_eq_true (List.all_eq_true.mp q x hx)
theorem pl_si1 : plainFor mt_si1.1 = true := by first | decide +kernel | exact plainFor_of_name (by first | (simp [plainName, overriddenIn]; done) | decide +kernel)
theorem pd_si1 : parseMethodDescriptor "([C)V" = some ⟨[(.array .char)], none⟩ := by decide +kernel

set_option maxRecDepth 65536 in
set_option maxHeartbeats 4000000 in
theorem ct_si1 {l : Launch} {Z : State} {a0 : Array Value} (G : Gd Z a0) {a b : Addr} {cs : List Int32} (hlat : Lat cs) (hcap : cs.length ≤ 16) (hne : cs ≠ []) (h : Heap) (X0 : Exa Z h a "java/lang/String") (F1 : Fld Z h a "java/lang/String" "coder" "B" (.int 0)) {v0 : Value} (F2 : Fld Z h a "java/lang/String" "value" "[B" v0) (A : Ar Z h b .char (cs.map .int)) :
    Ct l Z EL1 mt_si1 ({ frames := 3, cells := 1, slots := 16, locals := 52 } : Room) #[(.ref a), (.ref b)] h [a] (fun v h' => v = none ∧ Keep h h' [a] ∧ Str Z h' a cs) := by
  refine Ct.of_wp pl_si1 G.2.1 (Ls := #[.val (.ref a), .val (.ref b)]) rfl ?_
  refine Wp.run ok_si1 4 4 #[.val (.ref a), .val (.ref b)] [(.ref b), (.int (0 : Int32)), (.ref b), (.ref a)] rfl ?_
  refine Wp.alen ok_si1 A rfl rfl ?_
  refine Wp.at #[.val (.ref a), .val (.ref b)] [(.int (Int32.ofNat cs.length)), (.int (0 : Int32)), (.ref b), (.ref a)] ⟨rfl, by simp only [List.length_map]⟩ ?_
  refine Wp.run ok_si1 1 6 #[.val (.ref a), .val (.ref b)] [.null, (.int (Int32.ofNat cs.length)), (.int (0 : Int32)), (.ref b), (.ref a)] rfl ?_
  refine Wp.callI ok_si1 (a := a) (argsL := [(.ref b), (.int (0 : Int32)), (.int (Int32.ofNat cs.length)), .null]) (rest := []) (ct_si4 G hlat hcap hne h X0 F1 F2 A) G.2.1 (G.1 _ (List.mem_of_getElem? (i := 12) rfl)) (G.1 _ (List.mem_of_getElem? (i := 13) rfl)) (G.1 _ (List.mem_of_getElem? (i := 8) rfl)) (G.1 _ (List.mem_of_getElem? (i := 15) rfl)) rfl rfl rfl rfl (by decide) pd_si4 rfl rfl (Nat.le_of_ble_eq_true rfl) (Nat.le_of_ble_eq_true rfl) (Nat.le_of_ble_eq_true rfl) (Nat.le_of_ble_eq_true rfl) (allS (List.mem_of_getElem? (i := 0) rfl) all0) ?_
  rintro _ h1 ⟨rfl, K1, S1⟩ -
  exact Wp.ret0 ok_si1 rfl rfl rfl ⟨rfl, K1, S1⟩

abbrev mt_cod : Mth := (⟨"java/lang/String", "coder", "()B"⟩, jdk_42_method_152_code, 1, some .byte)
def tb_cod : Tab := [(0, .getstatic 38, 3), (3, .ifCond .eq 10, 3), (6, .aload_n 0, 1), (7, .getfield 15, 3), (10, .goto 4, 3), (13, .iconst 1, 1), (14, .ireturn, 1)]
theorem ok_cod : TabOk mt_cod.2.1 tb_cod := by
  intro x hx
  have q : tb_cod.all (fun x => decide (decode jdk_42_method_152_code x.1 = .ok x.2)) = true := by decide +kernel
  exact of_decide_eq_true (List.all_eq_true.mp q x hx)
theorem pl_cod : plainFor mt_cod.1 = true := by first | decide +kernel | exact plainFor_of_name (by first | (simp [plainName, overriddenIn]; done) | decide +kernel)
theorem pd_cod : parseMethodDescriptor "()B" = some ⟨[], some .byte⟩ := by decide +kernel

set_option maxRecDepth 65536 in
set_option maxHeartbeats 4000000 in
theorem ct_cod {l : Launch} {Z : State} {a0 : Array Value} (G : Gd Z a0) {a : Addr} {x : Int32} (hx : fits .byte (.int x) = true) (h : Heap) (F : Fld Z h a "java/lang/String" "coder" "B" (.int x)) :
    Ct l Z EL1 mt_cod ({ frames := 0, cells := 0, slots := 0, locals := 0 } : Room) #[(.ref a)] h [] (fun v h' => v = some (.int x) ∧ h = h') := by
  refine Ct.of_wp pl_cod G.2.1 (Ls := #[.val (.ref a)]) rfl ?_
  obtain ⟨vC, fC, nC⟩ := G.2.2.1
  refine Wp.getS ok_cod fC (G.1 _ (List.mem_of_getElem? (i := 19) rfl)) Via.refl rfl ?_
  refine Wp.ifF ok_cod rfl rfl (show ¬ vC = (0 : Int32) from nC) ?_
  refine Wp.run ok_cod 1 7 #[.val (.ref a)] [(.ref a)] rfl ?_
  refine Wp.getF ok_cod F (G.1 _ (List.mem_of_getElem? (i := 31) rfl)) Via.refl rfl rfl ?_
  refine Wp.run ok_cod 1 14 #[.val (.ref a)] [(.int x)] rfl ?_
  exact Wp.retI ok_cod (t := .byte) rfl (by decide) rfl rfl hx ⟨rfl, rfl⟩

abbrev mt_len : Mth := (⟨"java/lang/String", "length", "()I"⟩, jdk_42_method_54_code, 1, some .int)
def tb_len : Tab := [(0, .aload_n 0, 1), (1, .getfield 9, 3), (4, .arraylength, 1), (5, .aload_n 0, 1), (6, .invokevirtual 335, 3), (9, .ishr, 1), (10, .ireturn, 1)]
theorem ok_len : TabOk mt_len.2.1 tb_len := by
  intro x hx
  have q : tb_len.all (fun x => decide (decode jdk_42_method_54_code x.1 = .ok x.2)) = true := by decide +kernel
  exact of_decide_eq_true (List.all_eq_true.mp q x hx)
theorem pl_len : plainFor mt_len.1 = true := by first | decide +kernel | exact plainFor_of_name (by first | (simp [plainName, overriddenIn]; done) | decide +kernel)
theorem pd_len : parseMethodDescriptor "()I" = some ⟨[], some .int⟩ := by decide +kernel

set_option maxRecDepth 65536 in
set_option maxHeartbeats 4000000 in
theorem ct_len {l : Launch} {Z : State} {a0 : Array Value} (G : Gd Z a0) {a : Addr} {cs : List Int32} (h : Heap) (S1 : Str Z h a cs) :
    Ct l Z EL1 mt_len ({ frames := 1, cells := 0, slots := 0, locals := 13 } : Room) #[(.ref a)] h [] (fun v h' => v = some (.int (Int32.ofNat cs.length)) ∧ h = h') := by
  refine Ct.of_wp pl_len G.2.1 (Ls := #[.val (.ref a)]) rfl ?_
  obtain ⟨b, V, A⟩ := S1.val
  refine Wp.run ok_len 1 1 #[.val (.ref a)] [(.ref a)] rfl ?_
  refine Wp.getF ok_len V (G.1 _ (List.mem_of_getElem? (i := 33) rfl)) Via.refl rfl rfl ?_
  refine Wp.alen ok_len A rfl rfl ?_
  refine Wp.run ok_len 1 6 #[.val (.ref a)] [(.ref a), (.int (Int32.ofNat ((byt cs).length)))] rfl ?_
  refine Wp.callV ok_len (a := a) (argsL := []) (rest := [(.int (Int32.ofNat ((byt cs).length)))]) (ct_cod G (x := 0) rfl h S1.cod) S1.exa G.2.1 (G.1 _ (List.mem_of_getElem? (i := 59) rfl)) (G.1 _ (List.mem_of_getElem? (i := 60) rfl)) (G.1 _ (List.mem_of_getElem? (i := 62) rfl)) (G.1 _ (List.mem_of_getElem? (i := 61) rfl)) (G.1 _ (List.mem_of_getElem? (i := 8) rfl)) (G.1 _ (List.mem_of_getElem? (i := 63) rfl)) rfl rfl (by decide) pd_cod rfl rfl (Nat.le_of_ble_eq_true rfl) (Nat.le_of_ble_eq_true rfl) (Nat.le_of_ble_eq_true rfl) (Nat.le_of_ble_eq_true rfl) all0 ?_
  rintro _ _ ⟨rfl, rfl⟩ -
  refine Wp.run ok_len 1 10 #[.val (.ref a)] [(.int ((Int32.ofNat ((byt cs).length)) >>> (0 &&& 31)))] rfl ?_
  refine Wp.at #[.val (.ref a)] [(.int (Int32.ofNat cs.length))] ⟨rfl, by simp [shr0]⟩ ?_
  exact Wp.retI ok_len (t := .int) rfl (by decide) rfl rfl rfl ⟨rfl, rfl⟩

abbrev mt_pcf : Mth := (⟨"jdk/internal/util/Preconditions", "checkFromToIndex", "(IIILjava/util/function/BiFunction;)I"⟩, jdk_41_method_12_code, 4, some .int)
def tb_pcf : Tab := [(0, .iload_n 0, 1), (1, .ifCond .lt 13, 3), (4, .iload_n 0, 1), (5, .iload_n 1, 1), (6, .if_icmp .gt 8, 3), (9, .iload_n 1, 1), (10, .iload_n 2, 1), (11, .if_icmp .le 11, 3), (14, .aload_n 3, 1), (15, .iload_n 0, 1), (16, .iload_n 1, 1), (17, .iload_n 2, 1), (18, .invokestatic 99, 3), (21, .athrow, 1), (22, .iload_n 0, 1), (23, .ireturn, 1)]
theorem ok_pcf : TabOk mt_pcf.2.1 tb_pcf := by
  intro x hx
  have q : tb_pcf.all (fun x => decide (decode jdk_41_method_12_code x.1 = .ok x.2)) = true := by decide +kernel
  exact of_decide_eq_true (List.all_eq_true.mp q x hx)
theorem pl_pcf : plainFor mt_pcf.1 = true := by first | decide +kernel | exact plainFor_of_name (by first | (simp [plainName, overriddenIn]; done) | decide +kernel)
theorem pd_pcf : parseMethodDescriptor "(IIILjava/util/function/BiFunction;)I" = some ⟨[.int, .int, .int, (.object "java/util/function/BiFunction")], some .int⟩ := by decide +kernel

set_option maxRecDepth 65536 in
set_option maxHeartbeats 4000000 in
theorem ct_pcf {l : Launch} {Z : State} {a0 : Array Value} (G : Gd Z a0) {i j m : Nat} (hi : i ≤ j) (hj : j ≤ m) (h31 : m < 2 ^ 31) {f : Value} (hf : f.isRef = true) (h : Heap) :
    Ct l Z EL1 mt_pcf ({ frames := 0, cells := 0, slots := 0, locals := 0 } : Room) #[.int (Int32.ofNat i), .int (Int32.ofNat j), .int (Int32.ofNat m), f] h [] (fun v h' => v = some (.int (Int32.ofNat i)) ∧ h = h') := by
  rcases ref_cases hf with rfl | ⟨f, rfl⟩
  · refine Ct.of_wp pl_pcf G.2.1 (Ls := #[.val (.int (Int32.ofNat i)), .val (.int (Int32.ofNat j)), .val (.int (Int32.ofNat m)), .val .null]) rfl ?_
    refine Wp.run ok_pcf 1 1 #[.val (.int (Int32.ofNat i)), .val (.int (Int32.ofNat j)), .val (.int (Int32.ofNat m)), .val .null] [(.int (Int32.ofNat i))] rfl ?_
    refine Wp.ifF ok_pcf rfl rfl (show ¬ (Int32.ofNat i) < (0 : Int32) from Int32.ofNat_not_neg (by omega)) ?_
    refine Wp.run ok_pcf 2 6 #[.val (.int (Int32.ofNat i)), .val (.int (Int32.ofNat j)), .val (.int (Int32.ofNat m)), .val .null] [(.int (Int32.ofNat j)), (.int (Int32.ofNat i))] rfl ?_
    refine Wp.icmpF ok_pcf rfl rfl (show ¬ (Int32.ofNat j) < (Int32.ofNat i) from fun q => absurd ((n_lt (by omega) (by omega)).mp q) (by omega)) ?_
    refine Wp.run ok_pcf 2 11 #[.val (.int (Int32.ofNat i)), .val (.int (Int32.ofNat j)), .val (.int (Int32.ofNat m)), .val .null] [(.int (Int32.ofNat m)), (.int (Int32.ofNat j))] rfl ?_
    refine Wp.icmpT ok_pcf 22 rfl rfl (show ¬ (Int32.ofNat m) < (Int32.ofNat j) from fun q => absurd ((n_lt (by omega) (by omega)).mp q) (by omega)) (by decide) (by decide) ?_
    refine Wp.run ok_pcf 1 23 #[.val (.int (Int32.ofNat i)), .val (.int (Int32.ofNat j)), .val (.int (Int32.ofNat m)), .val .null] [(.int (Int32.ofNat i))] rfl ?_
    exact Wp.retI ok_pcf (t := .int) rfl (by decide) rfl rfl rfl ⟨rfl, rfl⟩
  · refine Ct.of_wp pl_pcf G.2.1 (Ls := #[.val (.int (Int32.ofNat i)), .val (.int (Int32.ofNat j)), .val (.int (Int32.ofNat m)), .val (.ref f)]) rfl ?_
    refine Wp.run ok_pcf 1 1 #[.val (.int (Int32.ofNat i)), .val (.int (Int32.ofNat j)), .val (.int (Int32.ofNat m)), .val (.ref f)] [(.int (Int32.ofNat i))] rfl ?_
    refine Wp.ifF ok_pcf rfl rfl (show ¬ (Int32.ofNat i) < (0 : Int32) from Int32.ofNat_not_neg (by omega)) ?_
    refine Wp.run ok_pcf 2 6 #[.val (.int (Int32.ofNat i)), .val (.int (Int32.ofNat j)), .val (.int (Int32.ofNat m)), .val (.ref f)] [(.int (Int32.ofNat j)), (.int (Int32.ofNat i))] rfl ?_
    refine Wp.icmpF ok_pcf rfl rfl (show ¬ (Int32.ofNat j) < (Int32.ofNat i) from fun q => absurd ((n_lt (by omega) (by omega)).mp q) (by omega)) ?_
    refine Wp.run ok_pcf 2 11 #[.val (.int (Int32.ofNat i)), .val (.int (Int32.ofNat j)), .val (.int (Int32.ofNat m)), .val (.ref f)] [(.int (Int32.ofNat m)), (.int (Int32.ofNat j))] rfl ?_
    refine Wp.icmpT ok_pcf 22 rfl rfl (show ¬ (Int32.ofNat m) < (Int32.ofNat j) from fun q => absurd ((n_lt (by omega) (by omega)).mp q) (by omega)) (by decide) (by decide) ?_
    refine Wp.run ok_pcf 1 23 #[.val (.int (Int32.ofNat i)), .val (.int (Int32.ofNat j)), .val (.int (Int32.ofNat m)), .val (.ref f)] [(.int (Int32.ofNat i))] rfl ?_
    exact Wp.retI ok_pcf (t := .int) rfl (by decide) rfl rfl rfl ⟨rfl, rfl⟩

abbrev mt_cbb : Mth := (⟨"java/lang/String", "checkBoundsBeginEnd", "(III)V"⟩, jdk_42_method_158_code, 3, none)
def tb_cbb : Tab := [(0, .iload_n 0, 1), (1, .iload_n 1, 1), (2, .iload_n 2, 1), (3, .getstatic 1053, 3), (6, .invokestatic 1062, 3), (9, .pop, 1), (10, .return_, 1)]
theorem ok_cbb : TabOk mt_cbb.2.1 tb_cbb := by
  intro x hx
  have q : tb_cbb.all (fun x => decide (decode jdk_42_method_158_code x.1 = .ok x.2)) = true := by decide +kernel
  exact of_decide_eq_true (List.all_eq_true.mp q x hx)
theorem pl_cbb : plainFor mt_cbb.1 = true := by first | decide +kernel | exact plainFor_of_name (by first | (simp [plainName, overriddenIn]; done) | decide +kernel)
theorem pd_cbb : parseMethodDescriptor "(III)V" = some ⟨[.int, .int, .int], none⟩ := by decide +kernel

set_option maxRecDepth 65536 in
set_option maxHeartbeats 4000000 in
theorem ct_cbb {l : Launch} {Z : State} {a0 : Array Value} (G : Gd Z a0) {i j m : Nat} (hi : i ≤ j) (hj : j ≤ m) (h31 : m < 2 ^ 31) (h : Heap)  :
    Ct l Z EL1 mt_cbb ({ frames := 1, cells := 0, slots := 0, locals := 15 } : Room) #[(.int (Int32.ofNat i)), (.int (Int32.ofNat j)), (.int (Int32.ofNat m))] h [] (fun v h' => v = none ∧ h = h') := by
  refine Ct.of_wp pl_cbb G.2.1 (Ls := #[.val (.int (Int32.ofNat i)), .val (.int (Int32.ofNat j)), .val (.int (Int32.ofNat m))]) rfl ?_
  obtain ⟨vF, fF, rF⟩ := G.2.2.2.1
  refine Wp.run ok_cbb 3 3 #[.val (.int (Int32.ofNat i)), .val (.int (Int32.ofNat j)), .val (.int (Int32.ofNat m))] [(.int (Int32.ofNat m)), (.int (Int32.ofNat j)), (.int (Int32.ofNat i))] rfl ?_
  refine Wp.getS ok_cbb fF (G.1 _ (List.mem_of_getElem? (i := 108) rfl)) Via.refl rfl ?_
  refine Wp.callS ok_cbb (argsL := [(.int (Int32.ofNat i)), (.int (Int32.ofNat j)), (.int (Int32.ofNat m)), vF]) (rest := []) (ct_pcf G hi hj h31 rF h) G.2.1 (G.1 _ (List.mem_of_getElem? (i := 110) rfl)) (G.1 _ (List.mem_of_getElem? (i := 111) rfl)) (G.1 _ (List.mem_of_getElem? (i := 109) rfl)) (G.1 _ (List.mem_of_getElem? (i := 112) rfl)) rfl rfl (by decide) pd_pcf rfl rfl (Nat.le_of_ble_eq_true rfl) (Nat.le_of_ble_eq_true rfl) (Nat.le_of_ble_eq_true rfl) (Nat.le_of_ble_eq_true rfl) all0 ?_
  rintro _ _ ⟨rfl, rfl⟩ -
  refine Wp.run ok_cbb 1 10 #[.val (.int (Int32.ofNat i)), .val (.int (Int32.ofNat j)), .val (.int (Int32.ofNat m))] [] rfl ?_
  exact Wp.ret0 ok_cbb rfl rfl rfl ⟨rfl, rfl⟩

abbrev mt_isl : Mth := (⟨"java/lang/String", "isLatin1", "()Z"⟩, jdk_42_method_154_code, 1, some .boolean)
def tb_isl : Tab := [(0, .getstatic 38, 3), (3, .ifCond .eq 14, 3), (6, .aload_n 0, 1), (7, .getfield 15, 3), (10, .ifCond .ne 7, 3), (13, .iconst 1, 1), (14, .goto 4, 3), (17, .iconst 0, 1), (18, .ireturn, 1)]
theorem ok_isl : TabOk mt_isl.2.1 tb_isl := by
  intro x hx
  have q : tb_isl.all (fun x => decide (decode jdk_42_method_154_code x.1 = .ok x.2)) = true := by decide +kernel
  exact of_decide_eq_true (List.all_eq_true.mp q x hx)
theorem pl_isl : plainFor mt_isl.1 = true := by first | decide +kernel | exact plainFor_of_name (by first | (simp [plainName, overriddenIn]; done) | decide +kernel)
theorem pd_isl : parseMethodDescriptor "()Z" = some ⟨[], some .boolean⟩ := by decide +kernel

set_option maxRecDepth 65536 in
set_option maxHeartbeats 4000000 in
theorem ct_isl {l : Launch} {Z : State} {a0 : Array Value} (G : Gd Z a0) {a : Addr} (h : Heap) (F : Fld Z h a "java/lang/String" "coder" "B" (.int 0)) :
    Ct l Z EL1 mt_isl ({ frames := 0, cells := 0, slots := 0, locals := 0 } : Room) #[(.ref a)] h [] (fun v h' => v = some (.int 1) ∧ h = h') := by
  refine Ct.of_wp pl_isl G.2.1 (Ls := #[.val (.ref a)]) rfl ?_
  obtain ⟨vC, fC, nC⟩ := G.2.2.1
  refine Wp.getS ok_isl fC (G.1 _ (List.mem_of_getElem? (i := 19) rfl)) Via.refl rfl ?_
  refine Wp.ifF ok_isl rfl rfl (show ¬ vC = (0 : Int32) from nC) ?_
  refine Wp.run ok_isl 1 7 #[.val (.ref a)] [(.ref a)] rfl ?_
  refine Wp.getF ok_isl F (G.1 _ (List.mem_of_getElem? (i := 31) rfl)) Via.refl rfl rfl ?_
  refine Wp.ifF ok_isl rfl rfl (show 0 = (0 : Int32) from rfl) ?_
  refine Wp.run ok_isl 2 18 #[.val (.ref a)] [(.int (1 : Int32))] rfl ?_
  exact Wp.retI ok_isl (t := .boolean) rfl (by decide) rfl rfl rfl ⟨rfl, rfl⟩

abbrev mt_ckl : Mth := (⟨"java/util/Arrays", "checkLength", "(II)V"⟩, jdk_65_method_131_code, 2, none)
def tb_ckl : Tab := [(0, .iload_n 1, 1), (1, .iload_n 0, 1), (2, .if_icmp .ge 35, 3), (5, .new 43, 3), (8, .dup, 1), (9, .new 45, 3), (12, .dup, 1), (13, .invokespecial 47, 3), (16, .iload_n 0, 1), (17, .invokevirtual 54, 3), (20, .ldc_w 337, 3), (23, .invokevirtual 50, 3), (26, .iload_n 1, 1), (27, .invokevirtual 54, 3), (30, .invokevirtual 61, 3), (33, .invokespecial 65, 3), (36, .athrow, 1), (37, .return_, 1)]
theorem ok_ckl : TabOk mt_ckl.2.1 tb_ckl := by
  intro x hx
  have q : tb_ckl.all (fun x => decide (decode jdk_65_method_131_code x.1 = .ok x.2)) = true := by decide +kernel
  exact of_decide_eq_true (List.all_eq_true.mp q x hx)
theorem pl_ckl : plainFor mt_ckl.1 = true := by first | decide +kernel | exact plainFor_of_name (by first | (simp [plainName, overriddenIn]; done) | decide +kernel)
theorem pd_ckl : parseMethodDescriptor "(II)V" = some ⟨[.int, .int], none⟩ := by decide +kernel

set_option maxRecDepth 65536 in
set_option maxHeartbeats 4000000 in
theorem ct_ckl {l : Launch} {Z : State} {a0 : Array Value} (G : Gd Z a0) {i j : Nat} (hi : i ≤ j) (h31 : j < 2 ^ 31) (h : Heap)  :
    Ct l Z EL1 mt_ckl ({ frames := 0, cells := 0, slots := 0, locals := 0 } : Room) #[(.int (Int32.ofNat i)), (.int (Int32.ofNat j))] h [] (fun v h' => v = none ∧ h = h') := by
  refine Ct.of_wp pl_ckl G.2.1 (Ls := #[.val (.int (Int32.ofNat i)), .val (.int (Int32.ofNat j))]) rfl ?_
  refine Wp.run ok_ckl 2 2 #[.val (.int (Int32.ofNat i)), .val (.int (Int32.ofNat j))] [(.int (Int32.ofNat i)), (.int (Int32.ofNat j))] rfl ?_
  refine Wp.icmpT ok_ckl 37 rfl rfl (show ¬ (Int32.ofNat j) < (Int32.ofNat i) from fun q => absurd ((n_lt (by omega) (by omega)).mp q) (by omega)) (by decide) (by decide) ?_
  exact Wp.ret0 ok_ckl rfl rfl rfl ⟨rfl, rfl⟩

abbrev mt_min : Mth := (⟨"java/lang/Math", "min", "(II)I"⟩, jdk_29_method_69_code, 2, some .int)
def tb_min : Tab := [(0, .iload_n 0, 1), (1, .iload_n 1, 1), (2, .if_icmp .gt 7, 3), (5, .iload_n 0, 1), (6, .goto 4, 3), (9, .iload_n 1, 1), (10, .ireturn, 1)]
theorem ok_min : TabOk mt_min.2.1 tb_min := by
  intro x hx
  have q : tb_min.all (fun x => decide (decode jdk_29_method_69_code x.1 = .ok x.2)) = true := by decide +kernel
  exact of_decide_eq_true (List.all_eq_true.mp q x hx)
theorem pl_min : plainFor mt_min.1 = true := by first | decide +kernel | exact plainFor_of_name (by first | (simp [plainName, overriddenIn]; done) | decide +kernel)
theorem pd_min : parseMethodDescriptor "(II)I" = some ⟨[.int, .int], some .int⟩ := by decide +kernel

set_option maxRecDepth 65536 in
set_option maxHeartbeats 4000000 in
theorem ct_min {l : Launch} {Z : State} {a0 : Array Value} (G : Gd Z a0) {x y : Int32} (h : Heap)  :
    Ct l Z EL1 mt_min ({ frames := 0, cells := 0, slots := 0, locals := 0 } : Room) #[(.int x), (.int y)] h [] (fun v h' => v = some (.int (if y < x then y else x)) ∧ h = h') := by
  refine Ct.of_wp pl_min G.2.1 (Ls := #[.val (.int x), .val (.int y)]) rfl ?_
  refine Wp.run ok_min 2 2 #[.val (.int x), .val (.int y)] [(.int y), (.int x)] rfl ?_
  refine Wp.icmp ok_min 9 rfl rfl (by decide) (by decide) (fun hc => ?_) (fun hc => ?_)
  · replace hc : y < x := hc
    refine Wp.run ok_min 1 10 #[.val (.int x), .val (.int y)] [(.int y)] rfl ?_
    exact Wp.retI ok_min (t := .int) rfl (by decide) rfl rfl rfl ⟨by rw [if_pos hc], rfl⟩
  · replace hc : ¬ y < x := hc
    refine Wp.run ok_min 2 10 #[.val (.int x), .val (.int y)] [(.int x)] rfl ?_
    exact Wp.retI ok_min (t := .int) rfl (by decide) rfl rfl rfl ⟨by rw [if_neg hc], rfl⟩

abbrev mt_crb : Mth := (⟨"java/util/Arrays", "copyOfRangeByte", "([BII)[B"⟩, jdk_65_method_133_code, 5, some (.array .byte))
def tb_crb : Tab := [(0, .iload_n 1, 1), (1, .iload_n 2, 1), (2, .invokestatic 343, 3), (5, .iload_n 2, 1), (6, .iload_n 1, 1), (7, .isub, 1), (8, .istore_n 3, 1), (9, .iload_n 3, 1), (10, .newarray .byte, 2), (12, .astore 4, 2), (14, .aload_n 0, 1), (15, .iload_n 1, 1), (16, .aload 4, 2), (18, .iconst 0, 1), (19, .aload_n 0, 1), (20, .arraylength, 1), (21, .iload_n 1, 1), (22, .isub, 1), (23, .iload_n 3, 1), (24, .invokestatic 304, 3), (27, .invokestatic 150, 3), (30, .aload 4, 2), (32, .areturn, 1)]
theorem ok_crb : TabOk mt_crb.2.1 tb_crb := by
  intro x hx
  have q : tb_crb.all (fun x => decide (decode jdk_65_method_133_code x.1 = .ok x.2)) = true := by decide +kernel
  exact of_decide_eq_true (List.all_eq_true.mp q x hx)
theorem pl_crb : plainFor mt_crb.1 = true := by first | decide +kernel | exact plainFor_of_name (by first | (simp [plainName, overriddenIn]; done) | decide +kernel)
theorem pd_crb : parseMethodDescriptor "([BII)[B" = some ⟨[(.array .byte), .int, .int], some (.array .byte)⟩ := by decide +kernel

set_option maxRecDepth 65536 in
set_option maxHeartbeats 4000000 in
theorem ct_crb {l : Launch} {Z : State} {a0 : Array Value} (G : Gd Z a0) {a : Addr} {vs : List Value} {i j : Nat} (hi : i ≤ j) (hj : j ≤ vs.length) (hcap : j - i ≤ 16) (h : Heap) (A : Ar Z h a .byte vs) :
    Ct l Z EL1 mt_crb ({ frames := 1, cells := 1, slots := 16, locals := 18 } : Room) #[(.ref a), (.int (Int32.ofNat i)), (.int (Int32.ofNat j))] h [] (fun v h' => ∃ d, v = some (.ref d) ∧ Ext h h' ∧ Ar Z h' d .byte ((vs.drop i).take (j - i)) ∧ h.size ≤ d) := by
  refine Ct.of_wp pl_crb G.2.1 (Ls := #[.val (.ref a), .val (.int (Int32.ofNat i)), .val (.int (Int32.ofNat j)), .unset, .unset]) rfl ?_
  have h31 := A.len
  refine Wp.run ok_crb 2 2 #[.val (.ref a), .val (.int (Int32.ofNat i)), .val (.int (Int32.ofNat j)), .unset, .unset] [(.int (Int32.ofNat j)), (.int (Int32.ofNat i))] rfl ?_
  refine Wp.callS ok_crb (argsL := [(.int (Int32.ofNat i)), (.int (Int32.ofNat j))]) (rest := []) (ct_ckl G hi (by omega) h) G.2.1 (G.1 _ (List.mem_of_getElem? (i := 152) rfl)) (G.1 _ (List.mem_of_getElem? (i := 153) rfl)) (G.1 _ (List.mem_of_getElem? (i := 147) rfl)) (G.1 _ (List.mem_of_getElem? (i := 154) rfl)) rfl rfl (by decide) pd_ckl rfl rfl (Nat.le_of_ble_eq_true rfl) (Nat.le_of_ble_eq_true rfl) (Nat.le_of_ble_eq_true rfl) (Nat.le_of_ble_eq_true rfl) all0 ?_
  rintro _ _ ⟨rfl, rfl⟩ -
  refine Wp.run ok_crb 5 10 #[.val (.ref a), .val (.int (Int32.ofNat i)), .val (.int (Int32.ofNat j)), .val (.int ((Int32.ofNat j) - (Int32.ofNat i))), .unset] [(.int ((Int32.ofNat j) - (Int32.ofNat i)))] rfl ?_
  refine Wp.at #[.val (.ref a), .val (.int (Int32.ofNat i)), .val (.int (Int32.ofNat j)), .val (.int (Int32.ofNat (j - i))), .unset] [(.int (Int32.ofNat (j - i)))] ⟨(by rw [n_sub hi] <;> rfl), (by rw [n_sub hi] <;> rfl)⟩ ?_
  refine Wp.newP ok_crb (len := (j - i)) (cap := 16) (G.1 _ (List.mem_of_getElem? (i := 24) rfl)) rfl rfl rfl hcap (Nat.le_of_ble_eq_true rfl) (Nat.le_of_ble_eq_true rfl) (Nat.le_of_ble_eq_true rfl) ?_
  intro h1 E1 B1
  refine Wp.run ok_crb 6 20 #[.val (.ref a), .val (.int (Int32.ofNat i)), .val (.int (Int32.ofNat j)), .val (.int (Int32.ofNat (j - i))), .val (.ref h.size)] [(.ref a), (.int (0 : Int32)), (.ref h.size), (.int (Int32.ofNat i)), (.ref a)] rfl ?_
  refine Wp.alen ok_crb (A.ext E1) rfl rfl ?_
  refine Wp.run ok_crb 3 24 #[.val (.ref a), .val (.int (Int32.ofNat i)), .val (.int (Int32.ofNat j)), .val (.int (Int32.ofNat (j - i))), .val (.ref h.size)] [(.int (Int32.ofNat (j - i))), (.int ((Int32.ofNat vs.length) - (Int32.ofNat i))), (.int (0 : Int32)), (.ref h.size), (.int (Int32.ofNat i)), (.ref a)] rfl ?_
  refine Wp.at #[.val (.ref a), .val (.int (Int32.ofNat i)), .val (.int (Int32.ofNat j)), .val (.int (Int32.ofNat (j - i))), .val (.ref h.size)] [(.int (Int32.ofNat (j - i))), (.int (Int32.ofNat (vs.length - i))), (.int (0 : Int32)), (.ref h.size), (.int (Int32.ofNat i)), (.ref a)] ⟨rfl, (by rw [n_sub (show i ≤ vs.length by omega)] <;> rfl)⟩ ?_
  refine Wp.callS ok_crb (argsL := [(.int (Int32.ofNat (vs.length - i))), (.int (Int32.ofNat (j - i)))]) (rest := [(.int (0 : Int32)), (.ref h.size), (.int (Int32.ofNat i)), (.ref a)]) (ct_min G (x := Int32.ofNat (vs.length - i)) (y := Int32.ofNat (j - i)) h1) G.2.1 (G.1 _ (List.mem_of_getElem? (i := 155) rfl)) (G.1 _ (List.mem_of_getElem? (i := 76) rfl)) (G.1 _ (List.mem_of_getElem? (i := 73) rfl)) (G.1 _ (List.mem_of_getElem? (i := 77) rfl)) rfl rfl (by decide) pd_min rfl rfl (Nat.le_of_ble_eq_true rfl) (Nat.le_of_ble_eq_true rfl) (Nat.le_of_ble_eq_true rfl) (Nat.le_of_ble_eq_true rfl) all0 ?_
  rintro _ _ ⟨rfl, rfl⟩ -
  have e2 : (if Int32.ofNat (j - i) < Int32.ofNat (vs.length - i) then Int32.ofNat (j - i) else Int32.ofNat (vs.length - i)) = Int32.ofNat (j - i) := by
    split
    · rfl
    · rename_i q; rw [n_lt (by omega) (by omega)] at q; rw [show vs.length - i = j - i by omega]
  refine Wp.at #[.val (.ref a), .val (.int (Int32.ofNat i)), .val (.int (Int32.ofNat j)), .val (.int (Int32.ofNat (j - i))), .val (.ref h.size)] [(.int (Int32.ofNat (j - i))), (.int (0 : Int32)), (.ref h.size), (.int (Int32.ofNat i)), (.ref a)] ⟨rfl, (by rw [e2] <;> rfl)⟩ ?_
  refine Wp.acopy ok_crb (i := i) (j := 0) (len := (j - i)) (A.ext E1) B1 (List.mem_of_getElem? (i := 0) rfl) rfl rfl rfl rfl (by omega) (by simp) (G.1 _ (List.mem_of_getElem? (i := 156) rfl)) (G.1 _ (List.mem_of_getElem? (i := 159) rfl)) (G.1 _ (List.mem_of_getElem? (i := 157) rfl)) (G.1 _ (List.mem_of_getElem? (i := 158) rfl)) rfl rfl rfl (Nat.le_of_ble_eq_true rfl) (Nat.le_of_ble_eq_true rfl) ?_
  intro h2 K2 B2
  refine Wp.run ok_crb 1 32 #[.val (.ref a), .val (.int (Int32.ofNat i)), .val (.int (Int32.ofNat j)), .val (.int (Int32.ofNat (j - i))), .val (.ref h.size)] [(.ref h.size)] rfl ?_
  exact Wp.retA ok_crb (t := (.array .byte)) rfl rfl rfl rfl rfl ⟨_, rfl, ext_keep E1 K2 (all1 (Nat.le_refl _)), by simpa using B2, Nat.le_refl _⟩

abbrev mt_cor : Mth := (⟨"java/util/Arrays", "copyOfRange", "([BII)[B"⟩, jdk_65_method_132_code, 3, some (.array .byte))
def tb_cor : Tab := [(0, .iload_n 1, 1), (1, .ifCond .ne 9, 3), (4, .iload_n 2, 1), (5, .aload_n 0, 1), (6, .arraylength, 1), (7, .if_icmp .eq 10, 3), (10, .aload_n 0, 1), (11, .iload_n 1, 1), (12, .iload_n 2, 1), (13, .invokestatic 339, 3), (16, .areturn, 1), (17, .aload_n 0, 1), (18, .invokevirtual 310, 3), (21, .checkcast 311, 3), (24, .areturn, 1)]
theorem ok_cor : TabOk mt_cor.2.1 tb_cor := by
  intro x hx
  have q : tb_cor.all (fun x => decide (decode jdk_65_method_132_code x.1 = .ok x.2)) = true := by decide +kernel
  exact of_decide_eq_true (List.all_eq_true.mp q x hx)
theorem pl_cor : plainFor mt_cor.1 = true := by first | decide +kernel | exact plainFor_of_name (by first | (simp [plainName, overriddenIn]; done) | decide +kernel)
theorem pd_cor : parseMethodDescriptor "([BII)[B" = some ⟨[(.array .byte), .int, .int], some (.array .byte)⟩ := by decide +kernel

set_option maxRecDepth 65536 in
set_option maxHeartbeats 4000000 in
theorem ct_cor {l : Launch} {Z : State} {a0 : Array Value} (G : Gd Z a0) {a : Addr} {vs : List Value} {i j : Nat} (hi : i ≤ j) (hj : j ≤ vs.length) (hcap : j - i ≤ 16) (hne : ¬ (i = 0 ∧ j = vs.length)) (h : Heap) (A : Ar Z h a .byte vs) :
    Ct l Z EL1 mt_cor ({ frames := 2, cells := 1, slots := 16, locals := 34 } : Room) #[(.ref a), (.int (Int32.ofNat i)), (.int (Int32.ofNat j))] h [] (fun v h' => ∃ d, v = some (.ref d) ∧ Ext h h' ∧ Ar Z h' d .byte ((vs.drop i).take (j - i)) ∧ h.size ≤ d) := by
  refine Ct.of_wp pl_cor G.2.1 (Ls := #[.val (.ref a), .val (.int (Int32.ofNat i)), .val (.int (Int32.ofNat j))]) rfl ?_
  have h31 := A.len
  refine Wp.run ok_cor 1 1 #[.val (.ref a), .val (.int (Int32.ofNat i)), .val (.int (Int32.ofNat j))] [(.int (Int32.ofNat i))] rfl ?_
  refine Wp.if0 ok_cor 10 rfl rfl (by decide) (by decide) (fun hc => ?_) (fun hc => ?_)
  · replace hc : ¬ (Int32.ofNat i) = (0 : Int32) := hc
    refine Wp.run ok_cor 3 13 #[.val (.ref a), .val (.int (Int32.ofNat i)), .val (.int (Int32.ofNat j))] [(.int (Int32.ofNat j)), (.int (Int32.ofNat i)), (.ref a)] rfl ?_
    refine Wp.callS ok_cor (argsL := [(.ref a), (.int (Int32.ofNat i)), (.int (Int32.ofNat j))]) (rest := []) (ct_crb G hi hj hcap h A) G.2.1 (G.1 _ (List.mem_of_getElem? (i := 149) rfl)) (G.1 _ (List.mem_of_getElem? (i := 150) rfl)) (G.1 _ (List.mem_of_getElem? (i := 147) rfl)) (G.1 _ (List.mem_of_getElem? (i := 151) rfl)) rfl rfl (by decide) pd_crb rfl rfl (Nat.le_of_ble_eq_true rfl) (Nat.le_of_ble_eq_true rfl) (Nat.le_of_ble_eq_true rfl) (Nat.le_of_ble_eq_true rfl) all0 ?_
    rintro _ h1 ⟨d, rfl, E1, B1, hd⟩ -
    exact Wp.retA ok_cor (t := (.array .byte)) rfl rfl rfl rfl rfl ⟨d, rfl, E1, B1, hd⟩
  · replace hc : (Int32.ofNat i) = (0 : Int32) := hc
    have hi0 : i = 0 := (n_eq (by omega) (by decide)).mp hc
    refine Wp.run ok_cor 2 6 #[.val (.ref a), .val (.int (Int32.ofNat i)), .val (.int (Int32.ofNat j))] [(.ref a), (.int (Int32.ofNat j))] rfl ?_
    refine Wp.alen ok_cor A rfl rfl ?_
    refine Wp.icmpF ok_cor rfl rfl (show ¬ (Int32.ofNat j) = (Int32.ofNat vs.length) from fun z => hne ⟨hi0, (n_eq (by omega) (by omega)).mp z⟩) ?_
    refine Wp.run ok_cor 3 13 #[.val (.ref a), .val (.int (Int32.ofNat i)), .val (.int (Int32.ofNat j))] [(.int (Int32.ofNat j)), (.int (Int32.ofNat i)), (.ref a)] rfl ?_
    refine Wp.callS ok_cor (argsL := [(.ref a), (.int (Int32.ofNat i)), (.int (Int32.ofNat j))]) (rest := []) (ct_crb G hi hj hcap h A) G.2.1 (G.1 _ (List.mem_of_getElem? (i := 149) rfl)) (G.1 _ (List.mem_of_getElem? (i := 150) rfl)) (G.1 _ (List.mem_of_getElem? (i := 147) rfl)) (G.1 _ (List.mem_of_getElem? (i := 151) rfl)) rfl rfl (by decide) pd_crb rfl rfl (Nat.le_of_ble_eq_true rfl) (Nat.le_of_ble_eq_true rfl) (Nat.le_of_ble_eq_true rfl) (Nat.le_of_ble_eq_true rfl) all0 ?_
    rintro _ h1 ⟨d, rfl, E1, B1, hd⟩ -
    exact Wp.retA ok_cor (t := (.array .byte)) rfl rfl rfl rfl rfl ⟨d, rfl, E1, B1, hd⟩

abbrev mt_sbb : Mth := (⟨"java/lang/String", "<init>", "([BB)V"⟩, jdk_42_method_151_code, 3, none)
def tb_sbb : Tab := [(0, .aload_n 0, 1), (1, .invokespecial 1, 3), (4, .aload_n 0, 1), (5, .aload_n 1, 1), (6, .putfield 9, 3), (9, .aload_n 0, 1), (10, .iload_n 2, 1), (11, .putfield 15, 3), (14, .return_, 1)]
theorem ok_sbb : TabOk mt_sbb.2.1 tb_sbb := by
  intro x hx
  have q : tb_sbb.all (fun x => decide (decode jdk_42_method_151_code x.1 = .ok x.2)) = true := by decide +kernel
  exact of_decide_eq_true (List.all_eq_true.mp q x hx)
theorem pl_sbb : plainFor mt_sbb.1 = true := by first | decide +kernel | exact plainFor_of_name (by first | (simp [plainName, overriddenIn]; done) | decide +kernel)
theorem pd_sbb : parseMethodDescriptor "([BB)V" = some ⟨[(.array .byte), .byte], none⟩ := by decide +kernel

set_option maxRecDepth 65536 in
set_option maxHeartbeats 4000000 in
theorem ct_sbb {l : Launch} {Z : State} {a0 : Array Value} (G : Gd Z a0) {a d : Addr} {cs : List Int32} (hlat : Lat cs) (hda : d ≠ a) (h : Heap) (X0 : Exa Z h a "java/lang/String") (F1 : Fld Z h a "java/lang/String" "coder" "B" (.int 0)) {v0 : Value} (F2 : Fld Z h a "java/lang/String" "value" "[B" v0) (A : Ar Z h d .byte (byt cs)) :
    Ct l Z EL1 mt_sbb ({ frames := 1, cells := 0, slots := 0, locals := 12 } : Room) #[(.ref a), (.ref d), (.int 0)] h [a] (fun v h' => v = none ∧ Keep h h' [a] ∧ Str Z h' a cs) := by
  refine Ct.of_wp pl_sbb G.2.1 (Ls := #[.val (.ref a), .val (.ref d), .val (.int 0)]) rfl ?_
  refine Wp.run ok_sbb 1 1 #[.val (.ref a), .val (.ref d), .val (.int 0)] [(.ref a)] rfl ?_
  refine Wp.initO ok_sbb (G.1 _ (List.mem_of_getElem? (i := 16) rfl)) (G.1 _ (List.mem_of_getElem? (i := 17) rfl)) (G.1 _ (List.mem_of_getElem? (i := 18) rfl)) rfl rfl rfl (Nat.le_of_ble_eq_true rfl) (Nat.le_of_ble_eq_true rfl) ?_
  refine Wp.run ok_sbb 2 6 #[.val (.ref a), .val (.ref d), .val (.int 0)] [(.ref d), (.ref a)] rfl ?_
  refine Wp.putF ok_sbb (ty := (.array .byte)) F2 X0 (List.mem_of_getElem? (i := 0) rfl) (G.1 _ (List.mem_of_getElem? (i := 33) rfl)) Via.refl (Or.inr ⟨(G.1 _ (List.mem_of_getElem? (i := 34) rfl)), rfl, rfl⟩) (G.1 _ (List.mem_of_getElem? (i := 7) rfl)) (by decide) rfl rfl rfl ?_
  intro h1 w1
  refine Wp.run ok_sbb 2 11 #[.val (.ref a), .val (.ref d), .val (.int 0)] [(.int 0), (.ref a)] rfl ?_
  refine Wp.putF ok_sbb (ty := .byte) (F1.other w1 (Or.inr (slot_ne (Or.inr (G.1 _ (List.mem_of_getElem? (i := 32) rfl))) (Or.inr (G.1 _ (List.mem_of_getElem? (i := 34) rfl))) (by decide) (t := .byte) (t' := (.array .byte)) (by decide) (by decide)))) (X0.wr w1) (List.mem_of_getElem? (i := 0) rfl) (G.1 _ (List.mem_of_getElem? (i := 31) rfl)) Via.refl (Or.inr ⟨(G.1 _ (List.mem_of_getElem? (i := 32) rfl)), rfl, rfl⟩) (G.1 _ (List.mem_of_getElem? (i := 7) rfl)) (by decide) rfl rfl rfl ?_
  intro h2 w2
  exact Wp.ret0 ok_sbb rfl rfl rfl ⟨rfl, (wr_keep w1).trans (wr_keep w2) (fun x hx => Or.inl hx), hlat, (X0.wr w1).wr w2, (F1.other w1 (Or.inr (slot_ne (Or.inr (G.1 _ (List.mem_of_getElem? (i := 32) rfl))) (Or.inr (G.1 _ (List.mem_of_getElem? (i := 34) rfl))) (by decide) (t := .byte) (t' := (.array .byte)) (by decide) (by decide)))).same w2, d, (F2.same w1).other w2 (Or.inr (slot_ne (Or.inr (G.1 _ (List.mem_of_getElem? (i := 34) rfl))) (Or.inr (G.1 _ (List.mem_of_getElem? (i := 32) rfl))) (by decide) (t := (.array .byte)) (t' := .byte) (by decide) (by decide))), (A.other w1 hda).other w2 hda⟩

abbrev mt_lns : Mth := (⟨"java/lang/StringLatin1", "newString", "([BII)Ljava/lang/String;"⟩, jdk_43_method_47_code, 3, some (.object "java/lang/String"))
def tb_lns : Tab := [(0, .iload_n 2, 1), (1, .ifCond .ne 6, 3), (4, .ldc 151, 2), (6, .areturn, 1), (7, .new 1, 3), (10, .dup, 1), (11, .aload_n 0, 1), (12, .iload_n 1, 1), (13, .iload_n 1, 1), (14, .iload_n 2, 1), (15, .iadd, 1), (16, .invokestatic 232, 3), (19, .iconst 0, 1), (20, .invokespecial 112, 3), (23, .areturn, 1)]
theorem ok_lns : TabOk mt_lns.2.1 tb_lns := by
  intro x hx
  have q : tb_lns.all (fun x => decide (decode jdk_43_method_47_code x.1 = .ok x.2)) = true := by decide +kernel
  exact of_decide_eq_true (List.all_eq_true.mp q x hx)
theorem pl_lns : plainFor mt_lns.1 = true := by first | decide +kernel | exact plainFor_of_name (by first | (simp [plainName, overriddenIn]; done) | decide +kernel)
theorem pd_lns : parseMethodDescriptor "([BII)Ljava/lang/String;" = some ⟨[(.array .byte), .int, .int], some (.object "java/lang/String")⟩ := by decide +kernel

set_option maxRecDepth 65536 in
set_option maxHeartbeats 4000000 in
theorem ct_lns {l : Launch} {Z : State} {a0 : Array Value} (G : Gd Z a0) {b : Addr} {cs : List Int32} {i m : Nat} (hlat : Lat cs) (hm : i + m ≤ cs.length) (hcap : m ≤ 16) (hne : ¬ (i = 0 ∧ i + m = cs.length)) (hn0 : m ≠ 0) (h : Heap) (A : Ar Z h b .byte (byt cs)) :
    Ct l Z EL1 mt_lns ({ frames := 3, cells := 2, slots := 20, locals := 50 } : Room) #[(.ref b), (.int (Int32.ofNat i)), (.int (Int32.ofNat m))] h [] (fun v h' => ∃ a, v = some (.ref a) ∧ Ext h h' ∧ Str Z h' a ((cs.drop i).take m)) := by
  refine Ct.of_wp pl_lns G.2.1 (Ls := #[.val (.ref b), .val (.int (Int32.ofNat i)), .val (.int (Int32.ofNat m))]) rfl ?_
  have h31 : cs.length < 2 ^ 31 := by simpa using A.len
  refine Wp.run ok_lns 1 1 #[.val (.ref b), .val (.int (Int32.ofNat i)), .val (.int (Int32.ofNat m))] [(.int (Int32.ofNat m))] rfl ?_
  refine Wp.ifT ok_lns 7 rfl rfl (show ¬ (Int32.ofNat m) = (0 : Int32) from fun z => hn0 ((n_eq (by omega) (by decide)).mp z)) (by decide) (by decide) ?_
  refine Wp.new ok_lns (G.1 _ (List.mem_of_getElem? (i := 144) rfl)) (G.1 _ (List.mem_of_getElem? (i := 7) rfl)) (G.1 _ (List.mem_of_getElem? (i := 8) rfl)) rfl (Nat.le_of_ble_eq_true rfl) (Nat.le_of_ble_eq_true rfl) ?_
  intro h1 E1 X1 D_h1
  have F1_h1 : Fld Z h1 h.size "java/lang/String" "coder" "B" (.int 0) := D_h1 (Or.inr (G.1 _ (List.mem_of_getElem? (i := 32) rfl))) (ty := .byte) (by decide)
  have F2_h1 : Fld Z h1 h.size "java/lang/String" "value" "[B" .null := D_h1 (Or.inr (G.1 _ (List.mem_of_getElem? (i := 34) rfl))) (ty := .array .byte) (by decide)
  refine Wp.run ok_lns 6 16 #[.val (.ref b), .val (.int (Int32.ofNat i)), .val (.int (Int32.ofNat m))] [(.int ((Int32.ofNat i) + (Int32.ofNat m))), (.int (Int32.ofNat i)), (.ref b), (.ref h.size), (.ref h.size)] rfl ?_
  refine Wp.at #[.val (.ref b), .val (.int (Int32.ofNat i)), .val (.int (Int32.ofNat m))] [(.int (Int32.ofNat (i + m))), (.int (Int32.ofNat i)), (.ref b), (.ref h.size), (.ref h.size)] ⟨rfl, (by rw [n_add] <;> rfl)⟩ ?_
  refine Wp.callS ok_lns (argsL := [(.ref b), (.int (Int32.ofNat i)), (.int (Int32.ofNat (i + m)))]) (rest := [(.ref h.size), (.ref h.size)]) (ct_cor G (i := i) (j := i + m) (by omega) (by simpa using hm) (by omega) (by simpa using hne) h1 (A.ext E1)) G.2.1 (G.1 _ (List.mem_of_getElem? (i := 145) rfl)) (G.1 _ (List.mem_of_getElem? (i := 146) rfl)) (G.1 _ (List.mem_of_getElem? (i := 147) rfl)) (G.1 _ (List.mem_of_getElem? (i := 148) rfl)) rfl rfl (by decide) pd_cor rfl rfl (Nat.le_of_ble_eq_true rfl) (Nat.le_of_ble_eq_true rfl) (Nat.le_of_ble_eq_true rfl) (Nat.le_of_ble_eq_true rfl) all0 ?_
  rintro _ h2 ⟨d, rfl, E2, B2, hd⟩ -
  refine Wp.run ok_lns 1 20 #[.val (.ref b), .val (.int (Int32.ofNat i)), .val (.int (Int32.ofNat m))] [(.int (0 : Int32)), (.ref d), (.ref h.size), (.ref h.size)] rfl ?_
  have e2 : ((byt cs).drop i).take (i + m - i) = byt ((cs.drop i).take m) := by rw [show i + m - i = m by omega]; simp [List.map_drop, List.map_take]
  rw [e2] at B2
  refine Wp.callI ok_lns (a := h.size) (argsL := [(.ref d), (.int (0 : Int32))]) (rest := [(.ref h.size)]) (ct_sbb G (cs := (cs.drop i).take m) (hlat.sub fun x hx => List.mem_of_mem_drop (List.mem_of_mem_take hx)) (Nat.ne_of_gt (Nat.lt_of_lt_of_le X1.lt hd)) h2 (X1.ext E2) (F1_h1.ext E2) (F2_h1.ext E2) B2) G.2.1 (G.1 _ (List.mem_of_getElem? (i := 160) rfl)) (G.1 _ (List.mem_of_getElem? (i := 161) rfl)) (G.1 _ (List.mem_of_getElem? (i := 8) rfl)) (G.1 _ (List.mem_of_getElem? (i := 162) rfl)) rfl rfl rfl rfl (by decide) pd_sbb rfl rfl (Nat.le_of_ble_eq_true rfl) (Nat.le_of_ble_eq_true rfl) (Nat.le_of_ble_eq_true rfl) (Nat.le_of_ble_eq_true rfl) (allS (List.mem_of_getElem? (i := 0) rfl) all0) ?_
  rintro _ h3 ⟨rfl, K3, S3⟩ -
  exact Wp.retA ok_lns (t := (.object "java/lang/String")) rfl rfl rfl rfl rfl ⟨_, rfl, ext_keep (ext_trans E1 E2) K3 (all1 (Nat.le_refl _)), S3⟩

abbrev mt_sub : Mth := (⟨"java/lang/String", "substring", "(II)Ljava/lang/String;"⟩, jdk_42_method_92_code, 5, some (.object "java/lang/String"))
def tb_sub : Tab := [(0, .aload_n 0, 1), (1, .invokevirtual 505, 3), (4, .istore_n 3, 1), (5, .iload_n 1, 1), (6, .iload_n 2, 1), (7, .iload_n 3, 1), (8, .invokestatic 521, 3), (11, .iload_n 1, 1), (12, .ifCond .ne 10, 3), (15, .iload_n 2, 1), (16, .iload_n 3, 1), (17, .if_icmp .ne 5, 3), (20, .aload_n 0, 1), (21, .areturn, 1), (22, .iload_n 2, 1), (23, .iload_n 1, 1), (24, .isub, 1), (25, .istore 4, 2), (27, .aload_n 0, 1), (28, .invokevirtual 492, 3), (31, .ifCond .eq 16, 3), (34, .aload_n 0, 1), (35, .getfield 9, 3), (38, .iload_n 1, 1), (39, .iload 4, 2), (41, .invokestatic 685, 3), (44, .goto 13, 3), (47, .aload_n 0, 1), (48, .getfield 9, 3), (51, .iload_n 1, 1), (52, .iload 4, 2), (54, .invokestatic 689, 3), (57, .areturn, 1)]
theorem ok_sub : TabOk mt_sub.2.1 tb_sub := by
  intro x hx
  have q : tb_sub.all (fun x => decide (decode jdk_42_method_92_code x.1 = .ok x.2)) = true := by decide +kernel
  exact of_decide_eq_true (List.all_eq_true.mp q x hx)
theorem pl_sub : plainFor mt_sub.1 = true := by first | decide +kernel | exact plainFor_of_name (by first | (simp [plainName, overriddenIn]; done) | decide +kernel)
theorem pd_sub : parseMethodDescriptor "(II)Ljava/lang/String;" = some ⟨[.int, .int], some (.object "java/lang/String")⟩ := by decide +kernel

set_option maxRecDepth 65536 in
set_option maxHeartbeats 4000000 in
theorem ct_sub {l : Launch} {Z : State} {a0 : Array Value} (G : Gd Z a0) {a : Addr} {cs : List Int32} {i j : Nat} (hi : i ≤ j) (hj : j ≤ cs.length) (hcap : cs.length ≤ 16) (hn0 : i < j) (h : Heap) (S1 : Str Z h a cs) :
    Ct l Z EL1 mt_sub ({ frames := 4, cells := 2, slots := 20, locals := 64 } : Room) #[(.ref a), (.int (Int32.ofNat i)), (.int (Int32.ofNat j))] h [] (fun v h' => ∃ d, v = some (.ref d) ∧ Ext h h' ∧ Str Z h' d ((cs.drop i).take (j - i))) := by
  refine Ct.of_wp pl_sub G.2.1 (Ls := #[.val (.ref a), .val (.int (Int32.ofNat i)), .val (.int (Int32.ofNat j)), .unset, .unset]) rfl ?_
  have h31 := S1.len
  refine Wp.run ok_sub 1 1 #[.val (.ref a), .val (.int (Int32.ofNat i)), .val (.int (Int32.ofNat j)), .unset, .unset] [(.ref a)] rfl ?_
  refine Wp.callV ok_sub (a := a) (argsL := []) (rest := []) (ct_len G h S1) S1.exa G.2.1 (G.1 _ (List.mem_of_getElem? (i := 54) rfl)) (G.1 _ (List.mem_of_getElem? (i := 55) rfl)) (G.1 _ (List.mem_of_getElem? (i := 57) rfl)) (G.1 _ (List.mem_of_getElem? (i := 56) rfl)) (G.1 _ (List.mem_of_getElem? (i := 8) rfl)) (G.1 _ (List.mem_of_getElem? (i := 58) rfl)) rfl rfl (by decide) pd_len rfl rfl (Nat.le_of_ble_eq_true rfl) (Nat.le_of_ble_eq_true rfl) (Nat.le_of_ble_eq_true rfl) (Nat.le_of_ble_eq_true rfl) all0 ?_
  rintro _ _ ⟨rfl, rfl⟩ -
  refine Wp.run ok_sub 4 8 #[.val (.ref a), .val (.int (Int32.ofNat i)), .val (.int (Int32.ofNat j)), .val (.int (Int32.ofNat cs.length)), .unset] [(.int (Int32.ofNat cs.length)), (.int (Int32.ofNat j)), (.int (Int32.ofNat i))] rfl ?_
  refine Wp.callS ok_sub (argsL := [(.int (Int32.ofNat i)), (.int (Int32.ofNat j)), (.int (Int32.ofNat cs.length))]) (rest := []) (ct_cbb G hi hj h31 h) G.2.1 (G.1 _ (List.mem_of_getElem? (i := 105) rfl)) (G.1 _ (List.mem_of_getElem? (i := 106) rfl)) (G.1 _ (List.mem_of_getElem? (i := 8) rfl)) (G.1 _ (List.mem_of_getElem? (i := 107) rfl)) rfl rfl (by decide) pd_cbb rfl rfl (Nat.le_of_ble_eq_true rfl) (Nat.le_of_ble_eq_true rfl) (Nat.le_of_ble_eq_true rfl) (Nat.le_of_ble_eq_true rfl) all0 ?_
  rintro _ _ ⟨rfl, rfl⟩ -
  refine Wp.run ok_sub 1 12 #[.val (.ref a), .val (.int (Int32.ofNat i)), .val (.int (Int32.ofNat j)), .val (.int (Int32.ofNat cs.length)), .unset] [(.int (Int32.ofNat i))] rfl ?_
  refine Wp.if0 ok_sub 22 rfl rfl (by decide) (by decide) (fun hc => ?_) (fun hc => ?_)
  · replace hc : ¬ (Int32.ofNat i) = (0 : Int32) := hc
    refine Wp.run ok_sub 5 28 #[.val (.ref a), .val (.int (Int32.ofNat i)), .val (.int (Int32.ofNat j)), .val (.int (Int32.ofNat cs.length)), .val (.int ((Int32.ofNat j) - (Int32.ofNat i)))] [(.ref a)] rfl ?_
    refine Wp.at #[.val (.ref a), .val (.int (Int32.ofNat i)), .val (.int (Int32.ofNat j)), .val (.int (Int32.ofNat cs.length)), .val (.int (Int32.ofNat (j - i)))] [(.ref a)] ⟨(by rw [n_sub hi] <;> rfl), rfl⟩ ?_
    refine Wp.callV ok_sub (a := a) (argsL := []) (rest := []) (ct_isl G h S1.cod) S1.exa G.2.1 (G.1 _ (List.mem_of_getElem? (i := 49) rfl)) (G.1 _ (List.mem_of_getElem? (i := 50) rfl)) (G.1 _ (List.mem_of_getElem? (i := 52) rfl)) (G.1 _ (List.mem_of_getElem? (i := 51) rfl)) (G.1 _ (List.mem_of_getElem? (i := 8) rfl)) (G.1 _ (List.mem_of_getElem? (i := 53) rfl)) rfl rfl (by decide) pd_isl rfl rfl (Nat.le_of_ble_eq_true rfl) (Nat.le_of_ble_eq_true rfl) (Nat.le_of_ble_eq_true rfl) (Nat.le_of_ble_eq_true rfl) all0 ?_
    rintro _ _ ⟨rfl, rfl⟩ -
    refine Wp.ifF ok_sub rfl rfl (show ¬ 1 = (0 : Int32) from by decide) ?_
    refine Wp.run ok_sub 1 35 #[.val (.ref a), .val (.int (Int32.ofNat i)), .val (.int (Int32.ofNat j)), .val (.int (Int32.ofNat cs.length)), .val (.int (Int32.ofNat (j - i)))] [(.ref a)] rfl ?_
    obtain ⟨b, V, A⟩ := S1.val
    refine Wp.getF ok_sub V (G.1 _ (List.mem_of_getElem? (i := 33) rfl)) Via.refl rfl rfl ?_
    refine Wp.run ok_sub 2 41 #[.val (.ref a), .val (.int (Int32.ofNat i)), .val (.int (Int32.ofNat j)), .val (.int (Int32.ofNat cs.length)), .val (.int (Int32.ofNat (j - i)))] [(.int (Int32.ofNat (j - i))), (.int (Int32.ofNat i)), (.ref b)] rfl ?_
    refine Wp.callS ok_sub (argsL := [(.ref b), (.int (Int32.ofNat i)), (.int (Int32.ofNat (j - i)))]) (rest := []) (ct_lns G (i := i) (m := j - i) S1.lat (by omega) (by omega) (fun z => hc (by rw [z.1]; rfl)) (by omega) h A) G.2.1 (G.1 _ (List.mem_of_getElem? (i := 141) rfl)) (G.1 _ (List.mem_of_getElem? (i := 142) rfl)) (G.1 _ (List.mem_of_getElem? (i := 66) rfl)) (G.1 _ (List.mem_of_getElem? (i := 143) rfl)) rfl rfl (by decide) pd_lns rfl rfl (Nat.le_of_ble_eq_true rfl) (Nat.le_of_ble_eq_true rfl) (Nat.le_of_ble_eq_true rfl) (Nat.le_of_ble_eq_true rfl) all0 ?_
    rintro _ h2 ⟨a2, rfl, E2, S2⟩ -
    refine Wp.run ok_sub 1 57 #[.val (.ref a), .val (.int (Int32.ofNat i)), .val (.int (Int32.ofNat j)), .val (.int (Int32.ofNat cs.length)), .val (.int (Int32.ofNat (j - i)))] [(.ref a2)] rfl ?_
    exact Wp.retA ok_sub (t := (.object "java/lang/String")) rfl rfl rfl rfl rfl ⟨a2, rfl, E2, S2⟩
  · replace hc : (Int32.ofNat i) = (0 : Int32) := hc
    have hi0 : i = 0 := (n_eq (by omega) (by decide)).mp hc
    refine Wp.run ok_sub 2 17 #[.val (.ref a), .val (.int (Int32.ofNat i)), .val (.int (Int32.ofNat j)), .val (.int (Int32.ofNat cs.length)), .unset] [(.int (Int32.ofNat cs.length)), (.int (Int32.ofNat j))] rfl ?_
    refine Wp.icmp ok_sub 22 rfl rfl (by decide) (by decide) (fun hd => ?_) (fun hd => ?_)
    · replace hd : ¬ (Int32.ofNat j) = (Int32.ofNat cs.length) := hd
      refine Wp.run ok_sub 5 28 #[.val (.ref a), .val (.int (Int32.ofNat i)), .val (.int (Int32.ofNat j)), .val (.int (Int32.ofNat cs.length)), .val (.int ((Int32.ofNat j) - (Int32.ofNat i)))] [(.ref a)] rfl ?_
      refine Wp.at #[.val (.ref a), .val (.int (Int32.ofNat i)), .val (.int (Int32.ofNat j)), .val (.int (Int32.ofNat cs.length)), .val (.int (Int32.ofNat (j - i)))] [(.ref a)] ⟨(by rw [n_sub hi] <;> rfl), rfl⟩ ?_
      refine Wp.callV ok_sub (a := a) (argsL := []) (rest := []) (ct_isl G h S1.cod) S1.exa G.2.1 (G.1 _ (List.mem_of_getElem? (i := 49) rfl)) (G.1 _ (List.mem_of_getElem? (i := 50) rfl)) (G.1 _ (List.mem_of_getElem? (i := 52) rfl)) (G.1 _ (List.mem_of_getElem? (i := 51) rfl)) (G.1 _ (List.mem_of_getElem? (i := 8) rfl)) (G.1 _ (List.mem_of_getElem? (i := 53) rfl)) rfl rfl (by decide) pd_isl rfl rfl (Nat.le_of_ble_eq_true rfl) (Nat.le_of_ble_eq_true rfl) (Nat.le_of_ble_eq_true rfl) (Nat.le_of_ble_eq_true rfl) all0 ?_
      rintro _ _ ⟨rfl, rfl⟩ -
      refine Wp.ifF ok_sub rfl rfl (show ¬ 1 = (0 : Int32) from by decide) ?_
      refine Wp.run ok_sub 1 35 #[.val (.ref a), .val (.int (Int32.ofNat i)), .val (.int (Int32.ofNat j)), .val (.int (Int32.ofNat cs.length)), .val (.int (Int32.ofNat (j - i)))] [(.ref a)] rfl ?_
      obtain ⟨b, V, A⟩ := S1.val
      refine Wp.getF ok_sub V (G.1 _ (List.mem_of_getElem? (i := 33) rfl)) Via.refl rfl rfl ?_
      refine Wp.run ok_sub 2 41 #[.val (.ref a), .val (.int (Int32.ofNat i)), .val (.int (Int32.ofNat j)), .val (.int (Int32.ofNat cs.length)), .val (.int (Int32.ofNat (j - i)))] [(.int (Int32.ofNat (j - i))), (.int (Int32.ofNat i)), (.ref b)] rfl ?_
      refine Wp.callS ok_sub (argsL := [(.ref b), (.int (Int32.ofNat i)), (.int (Int32.ofNat (j - i)))]) (rest := []) (ct_lns G (i := i) (m := j - i) S1.lat (by omega) (by omega) (fun z => hd (by rw [show j = cs.length by omega])) (by omega) h A) G.2.1 (G.1 _ (List.mem_of_getElem? (i := 141) rfl)) (G.1 _ (List.mem_of_getElem? (i := 142) rfl)) (G.1 _ (List.mem_of_getElem? (i := 66) rfl)) (G.1 _ (List.mem_of_getElem? (i := 143) rfl)) rfl rfl (by decide) pd_lns rfl rfl (Nat.le_of_ble_eq_true rfl) (Nat.le_of_ble_eq_true rfl) (Nat.le_of_ble_eq_true rfl) (Nat.le_of_ble_eq_true rfl) all0 ?_
      rintro _ h2 ⟨a2, rfl, E2, S2⟩ -
      refine Wp.run ok_sub 1 57 #[.val (.ref a), .val (.int (Int32.ofNat i)), .val (.int (Int32.ofNat j)), .val (.int (Int32.ofNat cs.length)), .val (.int (Int32.ofNat (j - i)))] [(.ref a2)] rfl ?_
      exact Wp.retA ok_sub (t := (.object "java/lang/String")) rfl rfl rfl rfl rfl ⟨a2, rfl, E2, S2⟩
    · replace hd : (Int32.ofNat j) = (Int32.ofNat cs.length) := hd
      have hj0 : j = cs.length := (n_eq (by omega) (by omega)).mp hd
      refine Wp.run ok_sub 1 21 #[.val (.ref a), .val (.int (Int32.ofNat i)), .val (.int (Int32.ofNat j)), .val (.int (Int32.ofNat cs.length)), .unset] [(.ref a)] rfl ?_
      exact Wp.retA ok_sub (t := (.object "java/lang/String")) rfl rfl rfl rfl rfl ⟨a, rfl, ext_refl h, by rw [hi0, hj0, List.drop_zero, Nat.sub_zero, List.take_length]; exact S1⟩

abbrev mt_su1 : Mth := (⟨"java/lang/String", "substring", "(I)Ljava/lang/String;"⟩, jdk_42_method_91_code, 2, some (.object "java/lang/String"))
def tb_su1 : Tab := [(0, .aload_n 0, 1), (1, .iload_n 1, 1), (2, .aload_n 0, 1), (3, .invokevirtual 505, 3), (6, .invokevirtual 681, 3), (9, .areturn, 1)]
theorem ok_su1 : TabOk mt_su1.2.1 tb_su1 := by
  intro x hx
  have q : tb_su1.all (fun x => decide (decode jdk_42_method_91_code x.1 = .ok x.2)) = true := by decide +kernel
  exact of_decide_eq_true (List.all_eq_true.mp q x hx)
theorem pl_su1 : plainFor mt_su1.1 = true := by first | decide +kernel | exact plainFor_of_name (by first | (simp [plainName, overriddenIn]; done) | decide +kernel)
theorem pd_su1 : parseMethodDescriptor "(I)Ljava/lang/String;" = some ⟨[.int], some (.object "java/lang/String")⟩ := by decide +kernel

set_option maxRecDepth 65536 in
set_option maxHeartbeats 4000000 in
theorem ct_su1 {l : Launch} {Z : State} {a0 : Array Value} (G : Gd Z a0) {a : Addr} {cs : List Int32} {i : Nat} (hi : i < cs.length) (hcap : cs.length ≤ 16) (h : Heap) (S1 : Str Z h a cs) :
    Ct l Z EL1 mt_su1 ({ frames := 5, cells := 2, slots := 20, locals := 80 } : Room) #[(.ref a), (.int (Int32.ofNat i))] h [] (fun v h' => ∃ d, v = some (.ref d) ∧ Ext h h' ∧ Str Z h' d (cs.drop i)) := by
  refine Ct.of_wp pl_su1 G.2.1 (Ls := #[.val (.ref a), .val (.int (Int32.ofNat i))]) rfl ?_
  refine Wp.run ok_su1 3 3 #[.val (.ref a), .val (.int (Int32.ofNat i))] [(.ref a), (.int (Int32.ofNat i)), (.ref a)] rfl ?_
  refine Wp.callV ok_su1 (a := a) (argsL := []) (rest := [(.int (Int32.ofNat i)), (.ref a)]) (ct_len G h S1) S1.exa G.2.1 (G.1 _ (List.mem_of_getElem? (i := 54) rfl)) (G.1 _ (List.mem_of_getElem? (i := 55) rfl)) (G.1 _ (List.mem_of_getElem? (i := 57) rfl)) (G.1 _ (List.mem_of_getElem? (i := 56) rfl)) (G.1 _ (List.mem_of_getElem? (i := 8) rfl)) (G.1 _ (List.mem_of_getElem? (i := 58) rfl)) rfl rfl (by decide) pd_len rfl rfl (Nat.le_of_ble_eq_true rfl) (Nat.le_of_ble_eq_true rfl) (Nat.le_of_ble_eq_true rfl) (Nat.le_of_ble_eq_true rfl) all0 ?_
  rintro _ _ ⟨rfl, rfl⟩ -
  refine Wp.callV ok_su1 (a := a) (argsL := [(.int (Int32.ofNat i)), (.int (Int32.ofNat cs.length))]) (rest := []) (ct_sub G (i := i) (j := cs.length) (by omega) (Nat.le_refl _) hcap hi h S1) S1.exa G.2.1 (G.1 _ (List.mem_of_getElem? (i := 168) rfl)) (G.1 _ (List.mem_of_getElem? (i := 101) rfl)) (G.1 _ (List.mem_of_getElem? (i := 103) rfl)) (G.1 _ (List.mem_of_getElem? (i := 102) rfl)) (G.1 _ (List.mem_of_getElem? (i := 8) rfl)) (G.1 _ (List.mem_of_getElem? (i := 104) rfl)) rfl rfl (by decide) pd_sub rfl rfl (Nat.le_of_ble_eq_true rfl) (Nat.le_of_ble_eq_true rfl) (Nat.le_of_ble_eq_true rfl) (Nat.le_of_ble_eq_true rfl) all0 ?_
  rintro _ h1 ⟨d, rfl, E1, T1⟩ -
  exact Wp.retA ok_su1 (t := (.object "java/lang/String")) rfl rfl rfl rfl rfl ⟨d, rfl, E1, by rw [← List.length_drop, List.take_length] at T1; exact T1⟩

abbrev mt_cen : Mth := (⟨"java/lang/StringLatin1", "canEncode", "(I)Z"⟩, jdk_43_method_4_code, 1, some .boolean)
def tb_cen : Tab := [(0, .iload_n 0, 1), (1, .ifCond .lt 14, 3), (4, .iload_n 0, 1), (5, .sipush 255, 3), (8, .if_icmp .gt 7, 3), (11, .iconst 1, 1), (12, .goto 4, 3), (15, .iconst 0, 1), (16, .ireturn, 1)]
theorem ok_cen : TabOk mt_cen.2.1 tb_cen := by
  intro x hx
  have q : tb_cen.all (fun x => decide (decode jdk_43_method_4_code x.1 = .ok x.2)) = true := by decide +kernel
  exact of_decide_eq_true (List.all_eq_true.mp q x hx)
theorem pl_cen : plainFor mt_cen.1 = true := by first | decide +kernel | exact plainFor_of_name (by first | (simp [plainName, overriddenIn]; done) | decide +kernel)
theorem pd_cen : parseMethodDescriptor "(I)Z" = some ⟨[.int], some .boolean⟩ := by decide +kernel

set_option maxRecDepth 65536 in
set_option maxHeartbeats 4000000 in
theorem ct_cen {l : Launch} {Z : State} {a0 : Array Value} (G : Gd Z a0) {c : Int32} (hc : 0 ≤ c.toInt ∧ c.toInt ≤ 255) (h : Heap)  :
    Ct l Z EL1 mt_cen ({ frames := 0, cells := 0, slots := 0, locals := 0 } : Room) #[(.int c)] h [] (fun v h' => v = some (.int 1) ∧ h = h') := by
  refine Ct.of_wp pl_cen G.2.1 (Ls := #[.val (.int c)]) rfl ?_
  refine Wp.run ok_cen 1 1 #[.val (.int c)] [(.int c)] rfl ?_
  refine Wp.ifF ok_cen rfl rfl (show ¬ c < (0 : Int32) from Int32.not_lt.mpr (Int32.le_iff_toInt_le.mpr (by simpa using hc.1))) ?_
  refine Wp.run ok_cen 2 8 #[.val (.int c)] [(.int (255 : Int32)), (.int c)] rfl ?_
  refine Wp.icmpF ok_cen rfl rfl (show ¬ (255 : Int32) < c from Int32.not_lt.mpr (Int32.le_iff_toInt_le.mpr (by simpa using hc.2))) ?_
  refine Wp.run ok_cen 2 16 #[.val (.int c)] [(.int (1 : Int32))] rfl ?_
  exact Wp.retI ok_cen (t := .boolean) rfl (by decide) rfl rfl rfl ⟨rfl, rfl⟩

abbrev mt_max : Mth := (⟨"java/lang/Math", "max", "(II)I"⟩, jdk_29_method_65_code, 2, some .int)
def tb_max : Tab := [(0, .iload_n 0, 1), (1, .iload_n 1, 1), (2, .if_icmp .lt 7, 3), (5, .iload_n 0, 1), (6, .goto 4, 3), (9, .iload_n 1, 1), (10, .ireturn, 1)]
theorem ok_max : TabOk mt_max.2.1 tb_max := by
  intro x hx
  have q : tb_max.all (fun x => decide (decode jdk_29_method_65_code x.1 = .ok x.2)) = true := by decide +kernel
  exact of_decide_eq_true (List.all_eq_true.mp q x hx)
theorem pl_max : plainFor mt_max.1 = true := by first | decide +kernel | exact plainFor_of_name (by first | (simp [plainName, overriddenIn]; done) | decide +kernel)
theorem pd_max : parseMethodDescriptor "(II)I" = some ⟨[.int, .int], some .int⟩ := by decide +kernel

set_option maxRecDepth 65536 in
set_option maxHeartbeats 4000000 in
theorem ct_max {l : Launch} {Z : State} {a0 : Array Value} (G : Gd Z a0) {x y : Int32} (h : Heap)  :
    Ct l Z EL1 mt_max ({ frames := 0, cells := 0, slots := 0, locals := 0 } : Room) #[(.int x), (.int y)] h [] (fun v h' => v = some (.int (if x < y then y else x)) ∧ h = h') := by
  refine Ct.of_wp pl_max G.2.1 (Ls := #[.val (.int x), .val (.int y)]) rfl ?_
  refine Wp.run ok_max 2 2 #[.val (.int x), .val (.int y)] [(.int y), (.int x)] rfl ?_
  refine Wp.icmp ok_max 9 rfl rfl (by decide) (by decide) (fun hc => ?_) (fun hc => ?_)
  · replace hc : x < y := hc
    refine Wp.run ok_max 1 10 #[.val (.int x), .val (.int y)] [(.int y)] rfl ?_
    exact Wp.retI ok_max (t := .int) rfl (by decide) rfl rfl rfl ⟨by rw [if_pos hc], rfl⟩
  · replace hc : ¬ x < y := hc
    refine Wp.run ok_max 2 10 #[.val (.int x), .val (.int y)] [(.int x)] rfl ?_
    exact Wp.retI ok_max (t := .int) rfl (by decide) rfl rfl rfl ⟨by rw [if_neg hc], rfl⟩

abbrev mt_lic : Mth := (⟨"java/lang/StringLatin1", "indexOfChar", "([BIII)I"⟩, jdk_43_method_23_code, 6, some .int)
def tb_lic : Tab := [(0, .iload_n 1, 1), (1, .i2b, 1), (2, .istore 4, 2), (4, .iload_n 2, 1), (5, .istore 5, 2), (7, .iload 5, 2), (9, .iload_n 3, 1), (10, .if_icmp .ge 21, 3), (13, .aload_n 0, 1), (14, .iload 5, 2), (16, .baload, 1), (17, .iload 4, 2), (19, .if_icmp .ne 6, 3), (22, .iload 5, 2), (24, .ireturn, 1), (25, .iinc 5 1, 3), (28, .goto (-21), 3), (31, .iconst (-1), 1), (32, .ireturn, 1)]
theorem ok_lic : TabOk mt_lic.2.1 tb_lic := by
  intro x hx
  have q : tb_lic.all (fun x => decide (decode jdk_43_method_23_code x.1 = .ok x.2)) = true := by decide +kernel
  exact of_decide_eq_true (List.all_eq_true.mp q x hx)
theorem pl_lic : plainFor mt_lic.1 = true := by first | decide +kernel | exact plainFor_of_name (by first | (simp [plainName, overriddenIn]; done) | decide +kernel)
theorem pd_lic : parseMethodDescriptor "([BIII)I" = some ⟨[(.array .byte), .int, .int, .int], some .int⟩ := by decide +kernel

set_option maxRecDepth 65536 in
set_option maxHeartbeats 4000000 in
theorem lp_lic {l : Launch} {Z : State} {a0 : Array Value} (G : Gd Z a0) {b : Addr} {cs : List Int32} {c : Int32} {i0 : Nat} {h : Heap} (hl : Lat cs) (hc : 0 ≤ c.toInt ∧ c.toInt ≤ 255) (A : Ar Z h b .byte (byt cs)) (h31 : cs.length < 2 ^ 31) : ∀ (r i : Nat), i + r = cs.length → ixF (cs.drop i0) c i0 = ixF (cs.drop i) c i →
    Wp l Z EL1 mt_lic ({ frames := 0, cells := 0, slots := 0, locals := 0 } : Room) h [] 0 0 7 #[.val (.ref b), .val (.int c), .val (.int (Int32.ofNat i0)), .val (.int (Int32.ofNat cs.length)), .val (.int (lo8 c)), .val (.int (Int32.ofNat i))] [] (fun v h' => v = some (.int (ixF (cs.drop i0) c i0)) ∧ h = h') := by
  intro r
  induction r with
  | zero =>
    intro i hi hp
    refine Wp.run ok_lic 2 10 #[.val (.ref b), .val (.int c), .val (.int (Int32.ofNat i0)), .val (.int (Int32.ofNat cs.length)), .val (.int (lo8 c)), .val (.int (Int32.ofNat i))] [(.int (Int32.ofNat cs.length)), (.int (Int32.ofNat i))] rfl ?_
    refine Wp.icmpT ok_lic 31 rfl rfl (show ¬ (Int32.ofNat i) < (Int32.ofNat cs.length) from fun q => absurd ((n_lt (by omega) h31).mp q) (by omega)) (by decide) (by decide) ?_
    refine Wp.run ok_lic 1 32 #[.val (.ref b), .val (.int c), .val (.int (Int32.ofNat i0)), .val (.int (Int32.ofNat cs.length)), .val (.int (lo8 c)), .val (.int (Int32.ofNat i))] [(.int (-1 : Int32))] rfl ?_
    exact Wp.retI ok_lic (t := .int) rfl (by decide) rfl rfl rfl ⟨by rw [hp, List.drop_eq_nil_of_le (by omega)]; rfl, rfl⟩
  | succ r ih =>
    intro i hi hp
    obtain ⟨x, hx⟩ : ∃ c, cs[i]? = some c := ⟨_, List.getElem?_eq_getElem (by omega)⟩
    refine Wp.run ok_lic 2 10 #[.val (.ref b), .val (.int c), .val (.int (Int32.ofNat i0)), .val (.int (Int32.ofNat cs.length)), .val (.int (lo8 c)), .val (.int (Int32.ofNat i))] [(.int (Int32.ofNat cs.length)), (.int (Int32.ofNat i))] rfl ?_
    refine Wp.icmpF ok_lic rfl rfl (show (Int32.ofNat i) < (Int32.ofNat cs.length) from (n_lt (by omega) h31).mpr (by omega)) ?_
    refine Wp.run ok_lic 2 16 #[.val (.ref b), .val (.int c), .val (.int (Int32.ofNat i0)), .val (.int (Int32.ofNat cs.length)), .val (.int (lo8 c)), .val (.int (Int32.ofNat i))] [(.int (Int32.ofNat i)), (.ref b)] rfl ?_
    refine Wp.aget ok_lic A (i := i) (v := (.int (lo8 x))) rfl (by simp [hx]) rfl rfl rfl ?_
    refine Wp.run ok_lic 1 19 #[.val (.ref b), .val (.int c), .val (.int (Int32.ofNat i0)), .val (.int (Int32.ofNat cs.length)), .val (.int (lo8 c)), .val (.int (Int32.ofNat i))] [(.int (lo8 c)), (.int (lo8 x))] rfl ?_
    refine Wp.icmp ok_lic 25 rfl rfl (by decide) (by decide) (fun hd => ?_) (fun hd => ?_)
    · replace hd : ¬ (lo8 x) = (lo8 c) := hd
      refine Wp.run ok_lic 2 7 #[.val (.ref b), .val (.int c), .val (.int (Int32.ofNat i0)), .val (.int (Int32.ofNat cs.length)), .val (.int (lo8 c)), .val (.int ((Int32.ofNat i) + (1 : Int32)))] [] rfl ?_
      refine Wp.at #[.val (.ref b), .val (.int c), .val (.int (Int32.ofNat i0)), .val (.int (Int32.ofNat cs.length)), .val (.int (lo8 c)), .val (.int (Int32.ofNat (i + 1)))] [] ⟨by simp only [n_succ], rfl⟩ ?_
      refine ih (i + 1) (by omega) ?_
      rw [hp, ixF_cons hx, if_neg (fun e => hd (by rw [e]))]
    · replace hd : (lo8 x) = (lo8 c) := hd
      refine Wp.run ok_lic 1 24 #[.val (.ref b), .val (.int c), .val (.int (Int32.ofNat i0)), .val (.int (Int32.ofNat cs.length)), .val (.int (lo8 c)), .val (.int (Int32.ofNat i))] [(.int (Int32.ofNat i))] rfl ?_
      exact Wp.retI ok_lic (t := .int) rfl (by decide) rfl rfl rfl ⟨by rw [hp, ixF_cons hx, if_pos (lo8_inj (hl.at hx) hc hd)], rfl⟩

set_option maxRecDepth 65536 in
set_option maxHeartbeats 4000000 in
theorem ct_lic {l : Launch} {Z : State} {a0 : Array Value} (G : Gd Z a0) {b : Addr} {cs : List Int32} {c : Int32} {i0 : Nat} (hl : Lat cs) (hc : 0 ≤ c.toInt ∧ c.toInt ≤ 255) (hi : i0 ≤ cs.length) (h : Heap) (A : Ar Z h b .byte (byt cs)) :
    Ct l Z EL1 mt_lic ({ frames := 0, cells := 0, slots := 0, locals := 0 } : Room) #[(.ref b), (.int c), (.int (Int32.ofNat i0)), (.int (Int32.ofNat cs.length))] h [] (fun v h' => v = some (.int (ixF (cs.drop i0) c i0)) ∧ h = h') := by
  refine Ct.of_wp pl_lic G.2.1 (Ls := #[.val (.ref b), .val (.int c), .val (.int (Int32.ofNat i0)), .val (.int (Int32.ofNat cs.length)), .unset, .unset]) rfl ?_
  have h31 : cs.length < 2 ^ 31 := by simpa using A.len
  refine Wp.run ok_lic 5 7 #[.val (.ref b), .val (.int c), .val (.int (Int32.ofNat i0)), .val (.int (Int32.ofNat cs.length)), .val (.int (lo8 c)), .val (.int (Int32.ofNat i0))] [] rfl ?_
  refine Wp.at #[.val (.ref b), .val (.int c), .val (.int (Int32.ofNat i0)), .val (.int (Int32.ofNat cs.length)), .val (.int (lo8 c)), .val (.int (Int32.ofNat i0))] [] ⟨rfl, rfl⟩ ?_
  exact lp_lic G hl hc A h31 (cs.length - i0) i0 (by omega) rfl

abbrev mt_lix : Mth := (⟨"java/lang/StringLatin1", "indexOf", "([BIII)I"⟩, jdk_43_method_22_code, 4, some .int)
def tb_lix : Tab := [(0, .iload_n 1, 1), (1, .invokestatic 88, 3), (4, .ifCond .ne 5, 3), (7, .iconst (-1), 1), (8, .ireturn, 1), (9, .iload_n 2, 1), (10, .iconst 0, 1), (11, .invokestatic 92, 3), (14, .istore_n 2, 1), (15, .iload_n 3, 1), (16, .aload_n 0, 1), (17, .arraylength, 1), (18, .invokestatic 38, 3), (21, .istore_n 3, 1), (22, .iload_n 2, 1), (23, .iload_n 3, 1), (24, .if_icmp .lt 5, 3), (27, .iconst (-1), 1), (28, .ireturn, 1), (29, .aload_n 0, 1), (30, .iload_n 1, 1), (31, .iload_n 2, 1), (32, .iload_n 3, 1), (33, .invokestatic 95, 3), (36, .ireturn, 1)]
theorem ok_lix : TabOk mt_lix.2.1 tb_lix := by
  intro x hx
  have q : tb_lix.all (fun x => decide (decode jdk_43_method_22_code x.1 = .ok x.2)) = true := by decide +kernel
  exact of_decide_eq_true (List.all_eq_true.mp q x hx)
theorem pl_lix : plainFor mt_lix.1 = true := by first | decide +kernel | exact plainFor_of_name (by first | (simp [plainName, overriddenIn]; done) | decide +kernel)
theorem pd_lix : parseMethodDescriptor "([BIII)I" = some ⟨[(.array .byte), .int, .int, .int], some .int⟩ := by decide +kernel

set_option maxRecDepth 65536 in
set_option maxHeartbeats 4000000 in
theorem ct_lix {l : Launch} {Z : State} {a0 : Array Value} (G : Gd Z a0) {b : Addr} {cs : List Int32} {c : Int32} {i0 : Nat} (hl : Lat cs) (hc : 0 ≤ c.toInt ∧ c.toInt ≤ 255) (hi : i0 ≤ cs.length) (h : Heap) (A : Ar Z h b .byte (byt cs)) :
    Ct l Z EL1 mt_lix ({ frames := 1, cells := 0, slots := 0, locals := 17 } : Room) #[(.ref b), (.int c), (.int (Int32.ofNat i0)), (.int (Int32.ofNat cs.length))] h [] (fun v h' => v = some (.int (ixF (cs.drop i0) c i0)) ∧ h = h') := by
  refine Ct.of_wp pl_lix G.2.1 (Ls := #[.val (.ref b), .val (.int c), .val (.int (Int32.ofNat i0)), .val (.int (Int32.ofNat cs.length))]) rfl ?_
  have h31 : cs.length < 2 ^ 31 := by simpa using A.len
  refine Wp.run ok_lix 1 1 #[.val (.ref b), .val (.int c), .val (.int (Int32.ofNat i0)), .val (.int (Int32.ofNat cs.length))] [(.int c)] rfl ?_
  refine Wp.callS ok_lix (argsL := [(.int c)]) (rest := []) (ct_cen G hc h) G.2.1 (G.1 _ (List.mem_of_getElem? (i := 68) rfl)) (G.1 _ (List.mem_of_getElem? (i := 69) rfl)) (G.1 _ (List.mem_of_getElem? (i := 66) rfl)) (G.1 _ (List.mem_of_getElem? (i := 70) rfl)) rfl rfl (by decide) pd_cen rfl rfl (Nat.le_of_ble_eq_true rfl) (Nat.le_of_ble_eq_true rfl) (Nat.le_of_ble_eq_true rfl) (Nat.le_of_ble_eq_true rfl) all0 ?_
  rintro _ _ ⟨rfl, rfl⟩ -
  refine Wp.ifT ok_lix 9 rfl rfl (show ¬ 1 = (0 : Int32) from by decide) (by decide) (by decide) ?_
  refine Wp.run ok_lix 2 11 #[.val (.ref b), .val (.int c), .val (.int (Int32.ofNat i0)), .val (.int (Int32.ofNat cs.length))] [(.int (0 : Int32)), (.int (Int32.ofNat i0))] rfl ?_
  refine Wp.callS ok_lix (argsL := [(.int (Int32.ofNat i0)), (.int (0 : Int32))]) (rest := []) (ct_max G (x := Int32.ofNat i0) (y := 0) h) G.2.1 (G.1 _ (List.mem_of_getElem? (i := 71) rfl)) (G.1 _ (List.mem_of_getElem? (i := 72) rfl)) (G.1 _ (List.mem_of_getElem? (i := 73) rfl)) (G.1 _ (List.mem_of_getElem? (i := 74) rfl)) rfl rfl (by decide) pd_max rfl rfl (Nat.le_of_ble_eq_true rfl) (Nat.le_of_ble_eq_true rfl) (Nat.le_of_ble_eq_true rfl) (Nat.le_of_ble_eq_true rfl) all0 ?_
  rintro _ _ ⟨rfl, rfl⟩ -
  refine Wp.at #[.val (.ref b), .val (.int c), .val (.int (Int32.ofNat i0)), .val (.int (Int32.ofNat cs.length))] [(.int (Int32.ofNat i0))] ⟨rfl, (by rw [if_neg (Int32.ofNat_not_neg (by omega))] <;> rfl)⟩ ?_
  refine Wp.run ok_lix 3 17 #[.val (.ref b), .val (.int c), .val (.int (Int32.ofNat i0)), .val (.int (Int32.ofNat cs.length))] [(.ref b), (.int (Int32.ofNat cs.length))] rfl ?_
  refine Wp.alen ok_lix A rfl rfl ?_
  refine Wp.at #[.val (.ref b), .val (.int c), .val (.int (Int32.ofNat i0)), .val (.int (Int32.ofNat cs.length))] [(.int (Int32.ofNat cs.length)), (.int (Int32.ofNat cs.length))] ⟨rfl, by simp only [List.length_map]⟩ ?_
  refine Wp.callS ok_lix (argsL := [(.int (Int32.ofNat cs.length)), (.int (Int32.ofNat cs.length))]) (rest := []) (ct_min G (x := Int32.ofNat cs.length) (y := Int32.ofNat cs.length) h) G.2.1 (G.1 _ (List.mem_of_getElem? (i := 75) rfl)) (G.1 _ (List.mem_of_getElem? (i := 76) rfl)) (G.1 _ (List.mem_of_getElem? (i := 73) rfl)) (G.1 _ (List.mem_of_getElem? (i := 77) rfl)) rfl rfl (by decide) pd_min rfl rfl (Nat.le_of_ble_eq_true rfl) (Nat.le_of_ble_eq_true rfl) (Nat.le_of_ble_eq_true rfl) (Nat.le_of_ble_eq_true rfl) all0 ?_
  rintro _ _ ⟨rfl, rfl⟩ -
  refine Wp.at #[.val (.ref b), .val (.int c), .val (.int (Int32.ofNat i0)), .val (.int (Int32.ofNat cs.length))] [(.int (Int32.ofNat cs.length))] ⟨rfl, (by rw [ite_self] <;> rfl)⟩ ?_
  refine Wp.run ok_lix 3 24 #[.val (.ref b), .val (.int c), .val (.int (Int32.ofNat i0)), .val (.int (Int32.ofNat cs.length))] [(.int (Int32.ofNat cs.length)), (.int (Int32.ofNat i0))] rfl ?_
  refine Wp.icmp ok_lix 29 rfl rfl (by decide) (by decide) (fun hd => ?_) (fun hd => ?_)
  · replace hd : (Int32.ofNat i0) < (Int32.ofNat cs.length) := hd
    refine Wp.run ok_lix 4 33 #[.val (.ref b), .val (.int c), .val (.int (Int32.ofNat i0)), .val (.int (Int32.ofNat cs.length))] [(.int (Int32.ofNat cs.length)), (.int (Int32.ofNat i0)), (.int c), (.ref b)] rfl ?_
    refine Wp.callS ok_lix (argsL := [(.ref b), (.int c), (.int (Int32.ofNat i0)), (.int (Int32.ofNat cs.length))]) (rest := []) (ct_lic G hl hc hi h A) G.2.1 (G.1 _ (List.mem_of_getElem? (i := 78) rfl)) (G.1 _ (List.mem_of_getElem? (i := 79) rfl)) (G.1 _ (List.mem_of_getElem? (i := 66) rfl)) (G.1 _ (List.mem_of_getElem? (i := 80) rfl)) rfl rfl (by decide) pd_lic rfl rfl (Nat.le_of_ble_eq_true rfl) (Nat.le_of_ble_eq_true rfl) (Nat.le_of_ble_eq_true rfl) (Nat.le_of_ble_eq_true rfl) all0 ?_
    rintro _ _ ⟨rfl, rfl⟩ -
    exact Wp.retI ok_lix (t := .int) rfl (by decide) rfl rfl rfl ⟨rfl, rfl⟩
  · replace hd : ¬ (Int32.ofNat i0) < (Int32.ofNat cs.length) := hd
    refine Wp.run ok_lix 1 28 #[.val (.ref b), .val (.int c), .val (.int (Int32.ofNat i0)), .val (.int (Int32.ofNat cs.length))] [(.int (-1 : Int32))] rfl ?_
    exact Wp.retI ok_lix (t := .int) rfl (by decide) rfl rfl rfl ⟨by rw [List.drop_eq_nil_of_le (Nat.le_of_not_lt fun z => hd ((n_lt (by omega) h31).mpr z))]; rfl, rfl⟩

abbrev mt_ix2 : Mth := (⟨"java/lang/String", "indexOf", "(II)I"⟩, jdk_42_method_80_code, 3, some .int)
def tb_ix2 : Tab := [(0, .aload_n 0, 1), (1, .invokevirtual 492, 3), (4, .ifCond .eq 19, 3), (7, .aload_n 0, 1), (8, .getfield 9, 3), (11, .iload_n 1, 1), (12, .iload_n 2, 1), (13, .aload_n 0, 1), (14, .invokevirtual 505, 3), (17, .invokestatic 637, 3), (20, .goto 16, 3), (23, .aload_n 0, 1), (24, .getfield 9, 3), (27, .iload_n 1, 1), (28, .iload_n 2, 1), (29, .aload_n 0, 1), (30, .invokevirtual 505, 3), (33, .invokestatic 640, 3), (36, .ireturn, 1)]
theorem ok_ix2 : TabOk mt_ix2.2.1 tb_ix2 := by
  intro x hx
  have q : tb_ix2.all (fun x => decide (decode jdk_42_method_80_code x.1 = .ok x.2)) = true := by decide +kernel
  exact of_decide_eq_true (List.all_eq_true.mp q x hx)
theorem pl_ix2 : plainFor mt_ix2.1 = true := by first | decide +kernel | exact plainFor_of_name (by first | (simp [plainName, overriddenIn]; done) | decide +kernel)
theorem pd_ix2 : parseMethodDescriptor "(II)I" = some ⟨[.int, .int], some .int⟩ := by decide +kernel

set_option maxRecDepth 65536 in
set_option maxHeartbeats 4000000 in
theorem ct_ix2 {l : Launch} {Z : State} {a0 : Array Value} (G : Gd Z a0) {a : Addr} {cs : List Int32} {c : Int32} {i0 : Nat} (hc : 0 ≤ c.toInt ∧ c.toInt ≤ 255) (hi : i0 ≤ cs.length) (h : Heap) (S1 : Str Z h a cs) :
    Ct l Z EL1 mt_ix2 ({ frames := 2, cells := 0, slots := 0, locals := 32 } : Room) #[(.ref a), (.int c), (.int (Int32.ofNat i0))] h [] (fun v h' => v = some (.int (ixF (cs.drop i0) c i0)) ∧ h = h') := by
  refine Ct.of_wp pl_ix2 G.2.1 (Ls := #[.val (.ref a), .val (.int c), .val (.int (Int32.ofNat i0))]) rfl ?_
  refine Wp.run ok_ix2 1 1 #[.val (.ref a), .val (.int c), .val (.int (Int32.ofNat i0))] [(.ref a)] rfl ?_
  refine Wp.callV ok_ix2 (a := a) (argsL := []) (rest := []) (ct_isl G h S1.cod) S1.exa G.2.1 (G.1 _ (List.mem_of_getElem? (i := 49) rfl)) (G.1 _ (List.mem_of_getElem? (i := 50) rfl)) (G.1 _ (List.mem_of_getElem? (i := 52) rfl)) (G.1 _ (List.mem_of_getElem? (i := 51) rfl)) (G.1 _ (List.mem_of_getElem? (i := 8) rfl)) (G.1 _ (List.mem_of_getElem? (i := 53) rfl)) rfl rfl (by decide) pd_isl rfl rfl (Nat.le_of_ble_eq_true rfl) (Nat.le_of_ble_eq_true rfl) (Nat.le_of_ble_eq_true rfl) (Nat.le_of_ble_eq_true rfl) all0 ?_
  rintro _ _ ⟨rfl, rfl⟩ -
  refine Wp.ifF ok_ix2 rfl rfl (show ¬ 1 = (0 : Int32) from by decide) ?_
  refine Wp.run ok_ix2 1 8 #[.val (.ref a), .val (.int c), .val (.int (Int32.ofNat i0))] [(.ref a)] rfl ?_
  obtain ⟨b, V, A⟩ := S1.val
  refine Wp.getF ok_ix2 V (G.1 _ (List.mem_of_getElem? (i := 33) rfl)) Via.refl rfl rfl ?_
  refine Wp.run ok_ix2 3 14 #[.val (.ref a), .val (.int c), .val (.int (Int32.ofNat i0))] [(.ref a), (.int (Int32.ofNat i0)), (.int c), (.ref b)] rfl ?_
  refine Wp.callV ok_ix2 (a := a) (argsL := []) (rest := [(.int (Int32.ofNat i0)), (.int c), (.ref b)]) (ct_len G h S1) S1.exa G.2.1 (G.1 _ (List.mem_of_getElem? (i := 54) rfl)) (G.1 _ (List.mem_of_getElem? (i := 55) rfl)) (G.1 _ (List.mem_of_getElem? (i := 57) rfl)) (G.1 _ (List.mem_of_getElem? (i := 56) rfl)) (G.1 _ (List.mem_of_getElem? (i := 8) rfl)) (G.1 _ (List.mem_of_getElem? (i := 58) rfl)) rfl rfl (by decide) pd_len rfl rfl (Nat.le_of_ble_eq_true rfl) (Nat.le_of_ble_eq_true rfl) (Nat.le_of_ble_eq_true rfl) (Nat.le_of_ble_eq_true rfl) all0 ?_
  rintro _ _ ⟨rfl, rfl⟩ -
  refine Wp.callS ok_ix2 (argsL := [(.ref b), (.int c), (.int (Int32.ofNat i0)), (.int (Int32.ofNat cs.length))]) (rest := []) (ct_lix G S1.lat hc hi h A) G.2.1 (G.1 _ (List.mem_of_getElem? (i := 64) rfl)) (G.1 _ (List.mem_of_getElem? (i := 65) rfl)) (G.1 _ (List.mem_of_getElem? (i := 66) rfl)) (G.1 _ (List.mem_of_getElem? (i := 67) rfl)) rfl rfl (by decide) pd_lix rfl rfl (Nat.le_of_ble_eq_true rfl) (Nat.le_of_ble_eq_true rfl) (Nat.le_of_ble_eq_true rfl) (Nat.le_of_ble_eq_true rfl) all0 ?_
  rintro _ _ ⟨rfl, rfl⟩ -
  refine Wp.run ok_ix2 1 36 #[.val (.ref a), .val (.int c), .val (.int (Int32.ofNat i0))] [(.int (ixF (cs.drop i0) c i0))] rfl ?_
  exact Wp.retI ok_ix2 (t := .int) rfl (by decide) rfl rfl rfl ⟨rfl, rfl⟩

abbrev mt_ix1 : Mth := (⟨"java/lang/String", "indexOf", "(I)I"⟩, jdk_42_method_79_code, 2, some .int)
def tb_ix1 : Tab := [(0, .aload_n 0, 1), (1, .iload_n 1, 1), (2, .iconst 0, 1), (3, .invokevirtual 633, 3), (6, .ireturn, 1)]
theorem ok_ix1 : TabOk mt_ix1.2.1 tb_ix1 := by
  intro x hx
  have q : tb_ix1.all (fun x => decide (decode jdk_42_method_79_code x.1 = .ok x.2)) = true := by decide +kernel
  exact of_decide_eq_true (List.all_eq_true.mp q x hx)
theorem pl_ix1 : plainFor mt_ix1.1 = true := by first | decide +kernel | exact plainFor_of_name (by first | (simp [plainName, overriddenIn]; done) | decide +kernel)
theorem pd_ix1 : parseMethodDescriptor "(I)I" = some ⟨[.int], some .int⟩ := by decide +kernel

set_option maxRecDepth 65536 in
set_option maxHeartbeats 4000000 in
theorem ct_ix1 {l : Launch} {Z : State} {a0 : Array Value} (G : Gd Z a0) {a : Addr} {cs : List Int32} {c : Int32} (hc : 0 ≤ c.toInt ∧ c.toInt ≤ 255) (h : Heap) (S1 : Str Z h a cs) :
    Ct l Z EL1 mt_ix1 ({ frames := 3, cells := 0, slots := 0, locals := 46 } : Room) #[(.ref a), (.int c)] h [] (fun v h' => v = some (.int (ixF cs c 0)) ∧ h = h') := by
  refine Ct.of_wp pl_ix1 G.2.1 (Ls := #[.val (.ref a), .val (.int c)]) rfl ?_
  refine Wp.run ok_ix1 3 3 #[.val (.ref a), .val (.int c)] [(.int (0 : Int32)), (.int c), (.ref a)] rfl ?_
  refine Wp.callV ok_ix1 (a := a) (argsL := [(.int c), (.int (0 : Int32))]) (rest := []) (ct_ix2 G (i0 := 0) hc (Nat.zero_le _) h S1) S1.exa G.2.1 (G.1 _ (List.mem_of_getElem? (i := 44) rfl)) (G.1 _ (List.mem_of_getElem? (i := 45) rfl)) (G.1 _ (List.mem_of_getElem? (i := 47) rfl)) (G.1 _ (List.mem_of_getElem? (i := 46) rfl)) (G.1 _ (List.mem_of_getElem? (i := 8) rfl)) (G.1 _ (List.mem_of_getElem? (i := 48) rfl)) rfl rfl (by decide) pd_ix2 rfl rfl (Nat.le_of_ble_eq_true rfl) (Nat.le_of_ble_eq_true rfl) (Nat.le_of_ble_eq_true rfl) (Nat.le_of_ble_eq_true rfl) all0 ?_
  rintro _ _ ⟨rfl, rfl⟩ -
  exact Wp.retI ok_ix1 (t := .int) rfl (by decide) rfl rfl rfl ⟨rfl, rfl⟩

abbrev mt_rec : Mth := (⟨"java/lang/Record", "<init>", "()V"⟩, jdk_30_method_1_code, 1, none)
def tb_rec : Tab := [(0, .aload_n 0, 1), (1, .invokespecial 1, 3), (4, .return_, 1)]
theorem ok_rec : TabOk mt_rec.2.1 tb_rec := by
  intro x hx
  have q : tb_rec.all (fun x => decide (decode jdk_30_method_1_code x.1 = .ok x.2)) = true := by decide +kernel
  exact of_decide_eq_true (List.all_eq_true.mp q x hx)
theorem pl_rec : plainFor mt_rec.1 = true := by first | decide +kernel | exact plainFor_of_name (by first | (simp [plainName, overriddenIn]; done) | decide +kernel)
theorem pd_rec : parseMethodDescriptor "()V" = some ⟨[], none⟩ := by decide +kernel

set_option maxRecDepth 65536 in
set_option maxHeartbeats 4000000 in
theorem ct_rec {l : Launch} {Z : State} {a0 : Array Value} (G : Gd Z a0) {a : Addr} (h : Heap)  :
    Ct l Z EL1 mt_rec ({ frames := 1, cells := 0, slots := 0, locals := 12 } : Room) #[(.ref a)] h [] (fun v h' => v = none ∧ h = h') := by
  refine Ct.of_wp pl_rec G.2.1 (Ls := #[.val (.ref a)]) rfl ?_
  refine Wp.run ok_rec 1 1 #[.val (.ref a)] [(.ref a)] rfl ?_
  refine Wp.initO ok_rec (G.1 _ (List.mem_of_getElem? (i := 125) rfl)) (G.1 _ (List.mem_of_getElem? (i := 17) rfl)) (G.1 _ (List.mem_of_getElem? (i := 18) rfl)) rfl rfl rfl (Nat.le_of_ble_eq_true rfl) (Nat.le_of_ble_eq_true rfl) ?_
  exact Wp.ret0 ok_rec rfl rfl rfl ⟨rfl, rfl⟩

abbrev mt_mis : Mth := (⟨"jdk/internal/util/ArraysSupport", "mismatch", "([BI[BII)I"⟩, jdk_48_method_14_code, 8, some .int)
def tb_mis : Tab := [(0, .iconst 0, 1), (1, .istore 5, 2), (3, .iload 4, 2), (5, .bipush 7, 2), (7, .if_icmp .le 63, 3), (10, .aload_n 0, 1), (11, .iload_n 1, 1), (12, .baload, 1), (13, .aload_n 2, 1), (14, .iload_n 3, 1), (15, .baload, 1), (16, .if_icmp .eq 5, 3), (19, .iconst 0, 1), (20, .ireturn, 1), (21, .getstatic 126, 3), (24, .iload_n 1, 1), (25, .iadd, 1), (26, .istore 6, 2), (28, .getstatic 126, 3), (31, .iload_n 3, 1), (32, .iadd, 1), (33, .istore 7, 2), (35, .aload_n 0, 1), (36, .iload 6, 2), (38, .i2l, 1), (39, .aload_n 2, 1), (40, .iload 7, 2), (42, .i2l, 1), (43, .iload 4, 2), (45, .getstatic 129, 3), (48, .invokestatic 122, 3), (51, .istore 5, 2), (53, .iload 5, 2), (55, .ifCond .lt 6, 3), (58, .iload 5, 2), (60, .ireturn, 1), (61, .iload 4, 2), (63, .iload 5, 2), (65, .iconst (-1), 1), (66, .ixor, 1), (67, .isub, 1), (68, .istore 5, 2), (70, .iload 5, 2), (72, .iload 4, 2), (74, .if_icmp .ge 27, 3), (77, .aload_n 0, 1), (78, .iload_n 1, 1), (79, .iload 5, 2), (81, .iadd, 1), (82, .baload, 1), (83, .aload_n 2, 1), (84, .iload_n 3, 1), (85, .iload 5, 2), (87, .iadd, 1), (88, .baload, 1), (89, .if_icmp .eq 6, 3), (92, .iload 5, 2), (94, .ireturn, 1), (95, .iinc 5 1, 3), (98, .goto (-28), 3), (101, .iconst (-1), 1), (102, .ireturn, 1)]
theorem ok_mis : TabOk mt_mis.2.1 tb_mis := by
  intro x hx
  have q : tb_mis.all (fun x => decide (decode jdk_48_method_14_code x.1 = .ok x.2)) = true := by decide +kernel
  exact of_decide_eq_true (List.all_eq_true.mp q x hx)
theorem pl_mis : plainFor mt_mis.1 = true := by first | decide +kernel | exact plainFor_of_name (by first | (simp [plainName, overriddenIn]; done) | decide +kernel)
theorem pd_mis : parseMethodDescriptor "([BI[BII)I" = some ⟨[(.array .byte), .int, (.array .byte), .int, .int], some .int⟩ := by decide +kernel

set_option maxRecDepth 65536 in
set_option maxHeartbeats 4000000 in
theorem ct_mis {l : Launch} {Z : State} {a0 : Array Value} (G : Gd Z a0) {b d : Addr} {cs : List Int32} {x c : Int32} (hx : cs[0]? = some x) (lx : 0 ≤ x.toInt ∧ x.toInt ≤ 255) (lc : 0 ≤ c.toInt ∧ c.toInt ≤ 255) (h : Heap) (A : Ar Z h b .byte (byt cs)) (B : Ar Z h d .byte (byt [c])) :
    Ct l Z EL1 mt_mis ({ frames := 0, cells := 0, slots := 0, locals := 0 } : Room) #[(.ref b), (.int 0), (.ref d), (.int 0), (.int 1)] h [] (fun v h' => v = some (.int (if x = c then -1 else 0)) ∧ h = h') := by
  refine Ct.of_wp pl_mis G.2.1 (Ls := #[.val (.ref b), .val (.int 0), .val (.ref d), .val (.int 0), .val (.int 1), .unset, .unset, .unset]) rfl ?_
  refine Wp.run ok_mis 4 7 #[.val (.ref b), .val (.int 0), .val (.ref d), .val (.int 0), .val (.int 1), .val (.int (0 : Int32)), .unset, .unset] [(.int (7 : Int32)), (.int 1)] rfl ?_
  refine Wp.icmpT ok_mis 70 rfl rfl (show ¬ (7 : Int32) < 1 from by decide) (by decide) (by decide) ?_
  refine Wp.run ok_mis 2 74 #[.val (.ref b), .val (.int 0), .val (.ref d), .val (.int 0), .val (.int 1), .val (.int (0 : Int32)), .unset, .unset] [(.int 1), (.int (0 : Int32))] rfl ?_
  refine Wp.icmpF ok_mis rfl rfl (show (0 : Int32) < 1 from by decide) ?_
  refine Wp.run ok_mis 4 82 #[.val (.ref b), .val (.int 0), .val (.ref d), .val (.int 0), .val (.int 1), .val (.int (0 : Int32)), .unset, .unset] [(.int (0 + (0 : Int32))), (.ref b)] rfl ?_
  refine Wp.aget ok_mis A (i := 0) (v := (.int (lo8 x))) rfl (by simp [hx]) rfl rfl rfl ?_
  refine Wp.run ok_mis 4 88 #[.val (.ref b), .val (.int 0), .val (.ref d), .val (.int 0), .val (.int 1), .val (.int (0 : Int32)), .unset, .unset] [(.int (0 + (0 : Int32))), (.ref d), (.int (lo8 x))] rfl ?_
  refine Wp.aget ok_mis B (i := 0) (v := (.int (lo8 c))) rfl rfl rfl rfl rfl ?_
  refine Wp.icmp ok_mis 95 rfl rfl (by decide) (by decide) (fun hc => ?_) (fun hc => ?_)
  · replace hc : (lo8 x) = (lo8 c) := hc
    refine Wp.run ok_mis 4 74 #[.val (.ref b), .val (.int 0), .val (.ref d), .val (.int 0), .val (.int 1), .val (.int ((0 : Int32) + (1 : Int32))), .unset, .unset] [(.int 1), (.int ((0 : Int32) + (1 : Int32)))] rfl ?_
    refine Wp.icmpT ok_mis 101 rfl rfl (show ¬ ((0 : Int32) + (1 : Int32)) < 1 from by decide) (by decide) (by decide) ?_
    refine Wp.run ok_mis 1 102 #[.val (.ref b), .val (.int 0), .val (.ref d), .val (.int 0), .val (.int 1), .val (.int ((0 : Int32) + (1 : Int32))), .unset, .unset] [(.int (-1 : Int32))] rfl ?_
    exact Wp.retI ok_mis (t := .int) rfl (by decide) rfl rfl rfl ⟨by rw [if_pos (lo8_inj lx lc hc)], rfl⟩
  · replace hc : ¬ (lo8 x) = (lo8 c) := hc
    refine Wp.run ok_mis 1 94 #[.val (.ref b), .val (.int 0), .val (.ref d), .val (.int 0), .val (.int 1), .val (.int (0 : Int32)), .unset, .unset] [(.int (0 : Int32))] rfl ?_
    exact Wp.retI ok_mis (t := .int) rfl (by decide) rfl rfl rfl ⟨by rw [if_neg (fun e => hc (by rw [e]))], rfl⟩

abbrev mt_sw2 : Mth := (⟨"java/lang/String", "startsWith", "(Ljava/lang/String;I)Z"⟩, jdk_42_method_75_code, 8, some .boolean)
def tb_sw2 : Tab := [(0, .iload_n 2, 1), (1, .ifCond .lt 16, 3), (4, .iload_n 2, 1), (5, .aload_n 0, 1), (6, .invokevirtual 505, 3), (9, .aload_n 1, 1), (10, .invokevirtual 505, 3), (13, .isub, 1), (14, .if_icmp .le 5, 3), (17, .iconst 0, 1), (18, .ireturn, 1), (19, .aload_n 0, 1), (20, .getfield 9, 3), (23, .astore_n 3, 1), (24, .aload_n 1, 1), (25, .getfield 9, 3), (28, .astore 4, 2), (30, .iconst 0, 1), (31, .istore 5, 2), (33, .aload 4, 2), (35, .arraylength, 1), (36, .istore 6, 2), (38, .aload_n 0, 1), (39, .invokevirtual 335, 3), (42, .istore 7, 2), (44, .iload 7, 2), (46, .aload_n 1, 1), (47, .invokevirtual 335, 3), (50, .if_icmp .ne 32, 3), (53, .iload 7, 2), (55, .iconst 1, 1), (56, .if_icmp .ne 7, 3), (59, .iload_n 2, 1), (60, .iconst 1, 1), (61, .ishl, 1), (62, .istore_n 2, 1), (63, .aload_n 3, 1), (64, .iload_n 2, 1), (65, .aload 4, 2), (67, .iconst 0, 1), (68, .iload 6, 2), (70, .invokestatic 607, 3), (73, .ifCond .ge 7, 3), (76, .iconst 1, 1), (77, .goto 4, 3), (80, .iconst 0, 1), (81, .ireturn, 1), (82, .iload 7, 2), (84, .ifCond .ne 5, 3), (87, .iconst 0, 1), (88, .ireturn, 1), (89, .iload 5, 2), (91, .iload 6, 2), (93, .if_icmp .ge 28, 3), (96, .aload_n 3, 1), (97, .iload_n 2, 1), (98, .iinc 2 1, 3), (101, .invokestatic 360, 3), (104, .aload 4, 2), (106, .iload 5, 2), (108, .iinc 5 1, 3), (111, .baload, 1), (112, .sipush 255, 3), (115, .iand, 1), (116, .if_icmp .eq (-27), 3), (119, .iconst 0, 1), (120, .ireturn, 1), (121, .iconst 1, 1), (122, .ireturn, 1)]
theorem ok_sw2 : TabOk mt_sw2.2.1 tb_sw2 := by
  intro x hx
  have q : tb_sw2.all (fun x => decide (decode jdk_42_method_75_code x.1 = .ok x.2)) = true := by decide +kernel
  exact of_decide_eq_true (List.all_eq_true.mp q x hx)
theorem pl_sw2 : plainFor mt_sw2.1 = true := by first | decide +kernel | exact plainFor_of_name (by first | (simp [plainName, overriddenIn]; done) | decide +kernel)
theorem pd_sw2 : parseMethodDescriptor "(Ljava/lang/String;I)Z" = some ⟨[(.object "java/lang/String"), .int], some .boolean⟩ := by decide +kernel

set_option maxRecDepth 65536 in
set_option maxHeartbeats 4000000 in
theorem ct_sw2 {l : Launch} {Z : State} {a0 : Array Value} (G : Gd Z a0) {a b : Addr} {cs : List Int32} {x c : Int32} (hx : cs[0]? = some x) (h : Heap) (S1 : Str Z h a cs) (S2 : Str Z h b [c]) :
    Ct l Z EL1 mt_sw2 ({ frames := 2, cells := 0, slots := 0, locals := 27 } : Room) #[(.ref a), (.ref b), (.int 0)] h [] (fun v h' => v = some (.int (if x = c then 1 else 0)) ∧ h = h') := by
  refine Ct.of_wp pl_sw2 G.2.1 (Ls := #[.val (.ref a), .val (.ref b), .val (.int 0), .unset, .unset, .unset, .unset, .unset]) rfl ?_
  have h31 := S1.len
  have hne : 0 < cs.length := (List.getElem?_eq_some_iff.mp hx).1
  refine Wp.run ok_sw2 1 1 #[.val (.ref a), .val (.ref b), .val (.int 0), .unset, .unset, .unset, .unset, .unset] [(.int 0)] rfl ?_
  refine Wp.ifF ok_sw2 rfl rfl (show ¬ 0 < (0 : Int32) from by decide) ?_
  refine Wp.run ok_sw2 2 6 #[.val (.ref a), .val (.ref b), .val (.int 0), .unset, .unset, .unset, .unset, .unset] [(.ref a), (.int 0)] rfl ?_
  refine Wp.callV ok_sw2 (a := a) (argsL := []) (rest := [(.int 0)]) (ct_len G h S1) S1.exa G.2.1 (G.1 _ (List.mem_of_getElem? (i := 54) rfl)) (G.1 _ (List.mem_of_getElem? (i := 55) rfl)) (G.1 _ (List.mem_of_getElem? (i := 57) rfl)) (G.1 _ (List.mem_of_getElem? (i := 56) rfl)) (G.1 _ (List.mem_of_getElem? (i := 8) rfl)) (G.1 _ (List.mem_of_getElem? (i := 58) rfl)) rfl rfl (by decide) pd_len rfl rfl (Nat.le_of_ble_eq_true rfl) (Nat.le_of_ble_eq_true rfl) (Nat.le_of_ble_eq_true rfl) (Nat.le_of_ble_eq_true rfl) all0 ?_
  rintro _ _ ⟨rfl, rfl⟩ -
  refine Wp.run ok_sw2 1 10 #[.val (.ref a), .val (.ref b), .val (.int 0), .unset, .unset, .unset, .unset, .unset] [(.ref b), (.int (Int32.ofNat cs.length)), (.int 0)] rfl ?_
  refine Wp.callV ok_sw2 (a := b) (argsL := []) (rest := [(.int (Int32.ofNat cs.length)), (.int 0)]) (ct_len G h S2) S2.exa G.2.1 (G.1 _ (List.mem_of_getElem? (i := 54) rfl)) (G.1 _ (List.mem_of_getElem? (i := 55) rfl)) (G.1 _ (List.mem_of_getElem? (i := 57) rfl)) (G.1 _ (List.mem_of_getElem? (i := 56) rfl)) (G.1 _ (List.mem_of_getElem? (i := 8) rfl)) (G.1 _ (List.mem_of_getElem? (i := 58) rfl)) rfl rfl (by decide) pd_len rfl rfl (Nat.le_of_ble_eq_true rfl) (Nat.le_of_ble_eq_true rfl) (Nat.le_of_ble_eq_true rfl) (Nat.le_of_ble_eq_true rfl) all0 ?_
  rintro _ _ ⟨rfl, rfl⟩ -
  refine Wp.run ok_sw2 1 14 #[.val (.ref a), .val (.ref b), .val (.int 0), .unset, .unset, .unset, .unset, .unset] [(.int ((Int32.ofNat cs.length) - (Int32.ofNat 1))), (.int 0)] rfl ?_
  refine Wp.at #[.val (.ref a), .val (.ref b), .val (.int 0), .unset, .unset, .unset, .unset, .unset] [(.int (Int32.ofNat (cs.length - 1))), (.int 0)] ⟨rfl, (by rw [n_sub hne] <;> rfl)⟩ ?_
  refine Wp.icmpT ok_sw2 19 rfl rfl (show ¬ (Int32.ofNat (cs.length - 1)) < 0 from Int32.ofNat_not_neg (by omega)) (by decide) (by decide) ?_
  refine Wp.run ok_sw2 1 20 #[.val (.ref a), .val (.ref b), .val (.int 0), .unset, .unset, .unset, .unset, .unset] [(.ref a)] rfl ?_
  obtain ⟨b1, V1, A1⟩ := S1.val
  obtain ⟨b2, V2, A2⟩ := S2.val
  refine Wp.getF ok_sw2 V1 (G.1 _ (List.mem_of_getElem? (i := 33) rfl)) Via.refl rfl rfl ?_
  refine Wp.run ok_sw2 2 25 #[.val (.ref a), .val (.ref b), .val (.int 0), .val (.ref b1), .unset, .unset, .unset, .unset] [(.ref b)] rfl ?_
  refine Wp.getF ok_sw2 V2 (G.1 _ (List.mem_of_getElem? (i := 33) rfl)) Via.refl rfl rfl ?_
  refine Wp.run ok_sw2 4 35 #[.val (.ref a), .val (.ref b), .val (.int 0), .val (.ref b1), .val (.ref b2), .val (.int (0 : Int32)), .unset, .unset] [(.ref b2)] rfl ?_
  refine Wp.alen ok_sw2 A2 rfl rfl ?_
  refine Wp.run ok_sw2 2 39 #[.val (.ref a), .val (.ref b), .val (.int 0), .val (.ref b1), .val (.ref b2), .val (.int (0 : Int32)), .val (.int (Int32.ofNat 1)), .unset] [(.ref a)] rfl ?_
  refine Wp.callV ok_sw2 (a := a) (argsL := []) (rest := []) (ct_cod G (x := 0) rfl h S1.cod) S1.exa G.2.1 (G.1 _ (List.mem_of_getElem? (i := 59) rfl)) (G.1 _ (List.mem_of_getElem? (i := 60) rfl)) (G.1 _ (List.mem_of_getElem? (i := 62) rfl)) (G.1 _ (List.mem_of_getElem? (i := 61) rfl)) (G.1 _ (List.mem_of_getElem? (i := 8) rfl)) (G.1 _ (List.mem_of_getElem? (i := 63) rfl)) rfl rfl (by decide) pd_cod rfl rfl (Nat.le_of_ble_eq_true rfl) (Nat.le_of_ble_eq_true rfl) (Nat.le_of_ble_eq_true rfl) (Nat.le_of_ble_eq_true rfl) all0 ?_
  rintro _ _ ⟨rfl, rfl⟩ -
  refine Wp.run ok_sw2 3 47 #[.val (.ref a), .val (.ref b), .val (.int 0), .val (.ref b1), .val (.ref b2), .val (.int (0 : Int32)), .val (.int (Int32.ofNat 1)), .val (.int 0)] [(.ref b), (.int 0)] rfl ?_
  refine Wp.callV ok_sw2 (a := b) (argsL := []) (rest := [(.int 0)]) (ct_cod G (x := 0) rfl h S2.cod) S2.exa G.2.1 (G.1 _ (List.mem_of_getElem? (i := 59) rfl)) (G.1 _ (List.mem_of_getElem? (i := 60) rfl)) (G.1 _ (List.mem_of_getElem? (i := 62) rfl)) (G.1 _ (List.mem_of_getElem? (i := 61) rfl)) (G.1 _ (List.mem_of_getElem? (i := 8) rfl)) (G.1 _ (List.mem_of_getElem? (i := 63) rfl)) rfl rfl (by decide) pd_cod rfl rfl (Nat.le_of_ble_eq_true rfl) (Nat.le_of_ble_eq_true rfl) (Nat.le_of_ble_eq_true rfl) (Nat.le_of_ble_eq_true rfl) all0 ?_
  rintro _ _ ⟨rfl, rfl⟩ -
  refine Wp.icmpF ok_sw2 rfl rfl (show 0 = 0 from rfl) ?_
  refine Wp.run ok_sw2 2 56 #[.val (.ref a), .val (.ref b), .val (.int 0), .val (.ref b1), .val (.ref b2), .val (.int (0 : Int32)), .val (.int (Int32.ofNat 1)), .val (.int 0)] [(.int (1 : Int32)), (.int 0)] rfl ?_
  refine Wp.icmpT ok_sw2 63 rfl rfl (show ¬ 0 = (1 : Int32) from by decide) (by decide) (by decide) ?_
  refine Wp.run ok_sw2 5 70 #[.val (.ref a), .val (.ref b), .val (.int 0), .val (.ref b1), .val (.ref b2), .val (.int (0 : Int32)), .val (.int (Int32.ofNat 1)), .val (.int 0)] [(.int (Int32.ofNat 1)), (.int (0 : Int32)), (.ref b2), (.int 0), (.ref b1)] rfl ?_
  refine Wp.at #[.val (.ref a), .val (.ref b), .val (.int 0), .val (.ref b1), .val (.ref b2), .val (.int (0 : Int32)), .val (.int (Int32.ofNat 1)), .val (.int 0)] [(.int 1), (.int (0 : Int32)), (.ref b2), (.int 0), (.ref b1)] ⟨rfl, rfl⟩ ?_
  refine Wp.callS ok_sw2 (argsL := [(.ref b1), (.int 0), (.ref b2), (.int (0 : Int32)), (.int 1)]) (rest := []) (ct_mis G hx (S1.lat.at hx) (S2.lat.at (i := 0) rfl) h A1 A2) G.2.1 (G.1 _ (List.mem_of_getElem? (i := 96) rfl)) (G.1 _ (List.mem_of_getElem? (i := 97) rfl)) (G.1 _ (List.mem_of_getElem? (i := 98) rfl)) (G.1 _ (List.mem_of_getElem? (i := 99) rfl)) rfl rfl (by decide) pd_mis rfl rfl (Nat.le_of_ble_eq_true rfl) (Nat.le_of_ble_eq_true rfl) (Nat.le_of_ble_eq_true rfl) (Nat.le_of_ble_eq_true rfl) all0 ?_
  rintro _ _ ⟨rfl, rfl⟩ -
  by_cases hq : x = c
  · refine Wp.at #[.val (.ref a), .val (.ref b), .val (.int 0), .val (.ref b1), .val (.ref b2), .val (.int (0 : Int32)), .val (.int (Int32.ofNat 1)), .val (.int 0)] [(.int (-1))] ⟨rfl, (by rw [if_pos hq] <;> rfl)⟩ ?_
    refine Wp.ifF ok_sw2 rfl rfl (show (-1) < (0 : Int32) from by decide) ?_
    refine Wp.run ok_sw2 2 81 #[.val (.ref a), .val (.ref b), .val (.int 0), .val (.ref b1), .val (.ref b2), .val (.int (0 : Int32)), .val (.int (Int32.ofNat 1)), .val (.int 0)] [(.int (1 : Int32))] rfl ?_
    exact Wp.retI ok_sw2 (t := .boolean) rfl (by decide) rfl rfl rfl ⟨by rw [if_pos hq], rfl⟩
  · refine Wp.at #[.val (.ref a), .val (.ref b), .val (.int 0), .val (.ref b1), .val (.ref b2), .val (.int (0 : Int32)), .val (.int (Int32.ofNat 1)), .val (.int 0)] [(.int 0)] ⟨rfl, (by rw [if_neg hq] <;> rfl)⟩ ?_
    refine Wp.ifT ok_sw2 80 rfl rfl (show ¬ 0 < (0 : Int32) from by decide) (by decide) (by decide) ?_
    refine Wp.run ok_sw2 1 81 #[.val (.ref a), .val (.ref b), .val (.int 0), .val (.ref b1), .val (.ref b2), .val (.int (0 : Int32)), .val (.int (Int32.ofNat 1)), .val (.int 0)] [(.int (0 : Int32))] rfl ?_
    exact Wp.retI ok_sw2 (t := .boolean) rfl (by decide) rfl rfl rfl ⟨by rw [if_neg hq], rfl⟩

abbrev mt_sw1 : Mth := (⟨"java/lang/String", "startsWith", "(Ljava/lang/String;)Z"⟩, jdk_42_method_76_code, 2, some .boolean)
def tb_sw1 : Tab := [(0, .aload_n 0, 1), (1, .aload_n 1, 1), (2, .iconst 0, 1), (3, .invokevirtual 624, 3), (6, .ireturn, 1)]
theorem ok_sw1 : TabOk mt_sw1.2.1 tb_sw1 := by
  intro x hx
  have q : tb_sw1.all (fun x => decide (decode jdk_42_method_76_code x.1 = .ok x.2)) = true := by decide +kernel
  exact of_decide_eq_true (List.all_eq_true.mp q x hx)
theorem pl_sw1 : plainFor mt_sw1.1 = true := by first | decide +kernel | exact plainFor_of_name (by first | (simp [plainName, overriddenIn]; done) | decide +kernel)
theorem pd_sw1 : parseMethodDescriptor "(Ljava/lang/String;)Z" = some ⟨[(.object "java/lang/String")], some .boolean⟩ := by decide +kernel

set_option maxRecDepth 65536 in
set_option maxHeartbeats 4000000 in
theorem ct_sw1 {l : Launch} {Z : State} {a0 : Array Value} (G : Gd Z a0) {a b : Addr} {cs : List Int32} {x c : Int32} (hx : cs[0]? = some x) (h : Heap) (S1 : Str Z h a cs) (S2 : Str Z h b [c]) :
    Ct l Z EL1 mt_sw1 ({ frames := 3, cells := 0, slots := 0, locals := 46 } : Room) #[(.ref a), (.ref b)] h [] (fun v h' => v = some (.int (if x = c then 1 else 0)) ∧ h = h') := by
  refine Ct.of_wp pl_sw1 G.2.1 (Ls := #[.val (.ref a), .val (.ref b)]) rfl ?_
  refine Wp.run ok_sw1 3 3 #[.val (.ref a), .val (.ref b)] [(.int (0 : Int32)), (.ref b), (.ref a)] rfl ?_
  refine Wp.callV ok_sw1 (a := a) (argsL := [(.ref b), (.int (0 : Int32))]) (rest := []) (ct_sw2 G hx h S1 S2) S1.exa G.2.1 (G.1 _ (List.mem_of_getElem? (i := 91) rfl)) (G.1 _ (List.mem_of_getElem? (i := 92) rfl)) (G.1 _ (List.mem_of_getElem? (i := 94) rfl)) (G.1 _ (List.mem_of_getElem? (i := 93) rfl)) (G.1 _ (List.mem_of_getElem? (i := 8) rfl)) (G.1 _ (List.mem_of_getElem? (i := 95) rfl)) rfl rfl (by decide) pd_sw2 rfl rfl (Nat.le_of_ble_eq_true rfl) (Nat.le_of_ble_eq_true rfl) (Nat.le_of_ble_eq_true rfl) (Nat.le_of_ble_eq_true rfl) all0 ?_
  rintro _ _ ⟨rfl, rfl⟩ -
  exact Wp.retI ok_sw1 (t := .boolean) rfl (by decide) rfl rfl (by split <;> rfl) ⟨rfl, rfl⟩
end Jvm.Pilot.@@N@@
namespace Jvm.Pilot.@@N@@
open Jvm Jvm.ClassFile Sem Op Lib Jvm.Free Jvm.Stand Jvm.LawKit Jvm.RoadKit Bundle Jvm.Pilot.@@N@@.Jvm.D Jvm.Pilot.@@N@@.Kw
abbrev mt_cut : Mth := (⟨"com/example/mono_contract/monocontract/NumberTextIsIntegerPinLaw", "cut", "([CI)Ljava/lang/String;"⟩, method_3_code, 2, some (.object "java/lang/String"))
def tb_cut : Tab := [(0, .iload_n 1, 1), (1, .iconst 1, 1), (2, .if_icmp .ne 20, 3), (5, .new 24, 3), (8, .dup, 1), (9, .iconst 1, 1), (10, .newarray .char, 2), (12, .dup, 1), (13, .iconst 0, 1), (14, .aload_n 0, 1), (15, .iconst 0, 1), (16, .caload, 1), (17, .castore, 1), (18, .invokespecial 26, 3), (21, .areturn, 1), (22, .iload_n 1, 1), (23, .iconst 2, 1), (24, .if_icmp .ne 26, 3), (27, .new 24, 3), (30, .dup, 1), (31, .iconst 2, 1), (32, .newarray .char, 2), (34, .dup, 1), (35, .iconst 0, 1), (36, .aload_n 0, 1), (37, .iconst 0, 1), (38, .caload, 1), (39, .castore, 1), (40, .dup, 1), (41, .iconst 1, 1), (42, .aload_n 0, 1), (43, .iconst 1, 1), (44, .caload, 1), (45, .castore, 1), (46, .invokespecial 26, 3), (49, .areturn, 1), (50, .iload_n 1, 1), (51, .iconst 3, 1), (52, .if_icmp .ne 32, 3), (55, .new 24, 3), (58, .dup, 1), (59, .iconst 3, 1), (60, .newarray .char, 2), (62, .dup, 1), (63, .iconst 0, 1), (64, .aload_n 0, 1), (65, .iconst 0, 1), (66, .caload, 1), (67, .castore, 1), (68, .dup, 1), (69, .iconst 1, 1), (70, .aload_n 0, 1), (71, .iconst 1, 1), (72, .caload, 1), (73, .castore, 1), (74, .dup, 1), (75, .iconst 2, 1), (76, .aload_n 0, 1), (77, .iconst 2, 1), (78, .caload, 1), (79, .castore, 1), (80, .invokespecial 26, 3), (83, .areturn, 1), (84, .iload_n 1, 1), (85, .iconst 4, 1), (86, .if_icmp .ne 38, 3), (89, .new 24, 3), (92, .dup, 1), (93, .iconst 4, 1), (94, .newarray .char, 2), (96, .dup, 1), (97, .iconst 0, 1), (98, .aload_n 0, 1), (99, .iconst 0, 1), (100, .caload, 1), (101, .castore, 1), (102, .dup, 1), (103, .iconst 1, 1), (104, .aload_n 0, 1), (105, .iconst 1, 1), (106, .caload, 1), (107, .castore, 1), (108, .dup, 1), (109, .iconst 2, 1), (110, .aload_n 0, 1), (111, .iconst 2, 1), (112, .caload, 1), (113, .castore, 1), (114, .dup, 1), (115, .iconst 3, 1), (116, .aload_n 0, 1), (117, .iconst 3, 1), (118, .caload, 1), (119, .castore, 1), (120, .invokespecial 26, 3), (123, .areturn, 1), (124, .iload_n 1, 1), (125, .iconst 5, 1), (126, .if_icmp .ne 44, 3), (129, .new 24, 3), (132, .dup, 1), (133, .iconst 5, 1), (134, .newarray .char, 2), (136, .dup, 1), (137, .iconst 0, 1), (138, .aload_n 0, 1), (139, .iconst 0, 1), (140, .caload, 1), (141, .castore, 1), (142, .dup, 1), (143, .iconst 1, 1), (144, .aload_n 0, 1), (145, .iconst 1, 1), (146, .caload, 1), (147, .castore, 1), (148, .dup, 1), (149, .iconst 2, 1), (150, .aload_n 0, 1), (151, .iconst 2, 1), (152, .caload, 1), (153, .castore, 1), (154, .dup, 1), (155, .iconst 3, 1), (156, .aload_n 0, 1), (157, .iconst 3, 1), (158, .caload, 1), (159, .castore, 1), (160, .dup, 1), (161, .iconst 4, 1), (162, .aload_n 0, 1), (163, .iconst 4, 1), (164, .caload, 1), (165, .castore, 1), (166, .invokespecial 26, 3), (169, .areturn, 1), (170, .iload_n 1, 1), (171, .bipush 6, 2), (173, .if_icmp .ne 51, 3), (176, .new 24, 3), (179, .dup, 1), (180, .bipush 6, 2), (182, .newarray .char, 2), (184, .dup, 1), (185, .iconst 0, 1), (186, .aload_n 0, 1), (187, .iconst 0, 1), (188, .caload, 1), (189, .castore, 1), (190, .dup, 1), (191, .iconst 1, 1), (192, .aload_n 0, 1), (193, .iconst 1, 1), (194, .caload, 1), (195, .castore, 1), (196, .dup, 1), (197, .iconst 2, 1), (198, .aload_n 0, 1), (199, .iconst 2, 1), (200, .caload, 1), (201, .castore, 1), (202, .dup, 1), (203, .iconst 3, 1), (204, .aload_n 0, 1), (205, .iconst 3, 1), (206, .caload, 1), (207, .castore, 1), (208, .dup, 1), (209, .iconst 4, 1), (210, .aload_n 0, 1), (211, .iconst 4, 1), (212, .caload, 1), (213, .castore, 1), (214, .dup, 1), (215, .iconst 5, 1), (216, .aload_n 0, 1), (217, .iconst 5, 1), (218, .caload, 1), (219, .castore, 1), (220, .invokespecial 26, 3), (223, .areturn, 1), (224, .iload_n 1, 1), (225, .bipush 7, 2), (227, .if_icmp .ne 59, 3), (230, .new 24, 3), (233, .dup, 1), (234, .bipush 7, 2), (236, .newarray .char, 2), (238, .dup, 1), (239, .iconst 0, 1), (240, .aload_n 0, 1), (241, .iconst 0, 1), (242, .caload, 1), (243, .castore, 1), (244, .dup, 1), (245, .iconst 1, 1), (246, .aload_n 0, 1), (247, .iconst 1, 1), (248, .caload, 1), (249, .castore, 1), (250, .dup, 1), (251, .iconst 2, 1), (252, .aload_n 0, 1), (253, .iconst 2, 1), (254, .caload, 1), (255, .castore, 1), (256, .dup, 1), (257, .iconst 3, 1), (258, .aload_n 0, 1), (259, .iconst 3, 1), (260, .caload, 1), (261, .castore, 1), (262, .dup, 1), (263, .iconst 4, 1), (264, .aload_n 0, 1), (265, .iconst 4, 1), (266, .caload, 1), (267, .castore, 1), (268, .dup, 1), (269, .iconst 5, 1), (270, .aload_n 0, 1), (271, .iconst 5, 1), (272, .caload, 1), (273, .castore, 1), (274, .dup, 1), (275, .bipush 6, 2), (277, .aload_n 0, 1), (278, .bipush 6, 2), (280, .caload, 1), (281, .castore, 1), (282, .invokespecial 26, 3), (285, .areturn, 1), (286, .new 24, 3), (289, .dup, 1), (290, .bipush 8, 2), (292, .newarray .char, 2), (294, .dup, 1), (295, .iconst 0, 1), (296, .aload_n 0, 1), (297, .iconst 0, 1), (298, .caload, 1), (299, .castore, 1), (300, .dup, 1), (301, .iconst 1, 1), (302, .aload_n 0, 1), (303, .iconst 1, 1), (304, .caload, 1), (305, .castore, 1), (306, .dup, 1), (307, .iconst 2, 1), (308, .aload_n 0, 1), (309, .iconst 2, 1), (310, .caload, 1), (311, .castore, 1), (312, .dup, 1), (313, .iconst 3, 1), (314, .aload_n 0, 1), (315, .iconst 3, 1), (316, .caload, 1), (317, .castore, 1), (318, .dup, 1), (319, .iconst 4, 1), (320, .aload_n 0, 1), (321, .iconst 4, 1), (322, .caload, 1), (323, .castore, 1), (324, .dup, 1), (325, .iconst 5, 1), (326, .aload_n 0, 1), (327, .iconst 5, 1), (328, .caload, 1), (329, .castore, 1), (330, .dup, 1), (331, .bipush 6, 2), (333, .aload_n 0, 1), (334, .bipush 6, 2), (336, .caload, 1), (337, .castore, 1), (338, .dup, 1), (339, .bipush 7, 2), (341, .aload_n 0, 1), (342, .bipush 7, 2), (344, .caload, 1), (345, .castore, 1), (346, .invokespecial 26, 3), (349, .areturn, 1)]
theorem ok_cut : TabOk mt_cut.2.1 tb_cut := by
  intro x hx
  have q : tb_cut.all (fun x => decide (decode method_3_code x.1 = .ok x.2)) = true := by decide +kernel
  exact of_decide_eq_true (List.all_eq_true.mp q x hx)
theorem pl_cut : plainFor mt_cut.1 = true := by first | decide +kernel | exact plainFor_of_name (by first | (simp [plainName, overriddenIn]; done) | decide +kernel)
theorem pd_cut : parseMethodDescriptor "([CI)Ljava/lang/String;" = some ⟨[(.array .char), .int], some (.object "java/lang/String")⟩ := by decide +kernel

set_option maxRecDepth 65536 in
set_option maxHeartbeats 4000000 in
theorem ct_cut {l : Launch} {Z : State} {a0 : Array Value} (G : Gd Z a0) {b : Addr} {k : Nat} (hk1 : 1 ≤ k) (hk8 : k ≤ 8) {x0 x1 x2 x3 x4 x5 x6 x7 : Int32} (L0 : 0 ≤ x0.toInt ∧ x0.toInt ≤ 255) (L1 : 0 ≤ x1.toInt ∧ x1.toInt ≤ 255) (L2 : 0 ≤ x2.toInt ∧ x2.toInt ≤ 255) (L3 : 0 ≤ x3.toInt ∧ x3.toInt ≤ 255) (L4 : 0 ≤ x4.toInt ∧ x4.toInt ≤ 255) (L5 : 0 ≤ x5.toInt ∧ x5.toInt ≤ 255) (L6 : 0 ≤ x6.toInt ∧ x6.toInt ≤ 255) (L7 : 0 ≤ x7.toInt ∧ x7.toInt ≤ 255) (h : Heap) (A : Ar Z h b .char ([x0, x1, x2, x3, x4, x5, x6, x7].map .int)) :
    Ct l Z EL1 mt_cut ({ frames := 4, cells := 3, slots := 28, locals := 66 } : Room) #[(.ref b), (.int (Int32.ofNat k))] h [] (fun v h' => ∃ a, v = some (.ref a) ∧ Ext h h' ∧ Str Z h' a ([x0, x1, x2, x3, x4, x5, x6, x7].take k)) := by
  refine Ct.of_wp pl_cut G.2.1 (Ls := #[.val (.ref b), .val (.int (Int32.ofNat k))]) rfl ?_
  refine Wp.run ok_cut 2 2 #[.val (.ref b), .val (.int (Int32.ofNat k))] [(.int (1 : Int32)), (.int (Int32.ofNat k))] rfl ?_
  refine Wp.icmp ok_cut 22 rfl rfl (by decide) (by decide) (fun hk1 => ?_) (fun hk1 => ?_)
  · replace hk1 : ¬ (Int32.ofNat k) = (1 : Int32) := hk1
    have n1 : k ≠ 1 := fun e => hk1 (by rw [e]; rfl)
    refine Wp.run ok_cut 2 24 #[.val (.ref b), .val (.int (Int32.ofNat k))] [(.int (2 : Int32)), (.int (Int32.ofNat k))] rfl ?_
    refine Wp.icmp ok_cut 50 rfl rfl (by decide) (by decide) (fun hk2 => ?_) (fun hk2 => ?_)
    · replace hk2 : ¬ (Int32.ofNat k) = (2 : Int32) := hk2
      have n2 : k ≠ 2 := fun e => hk2 (by rw [e]; rfl)
      refine Wp.run ok_cut 2 52 #[.val (.ref b), .val (.int (Int32.ofNat k))] [(.int (3 : Int32)), (.int (Int32.ofNat k))] rfl ?_
      refine Wp.icmp ok_cut 84 rfl rfl (by decide) (by decide) (fun hk3 => ?_) (fun hk3 => ?_)
      · replace hk3 : ¬ (Int32.ofNat k) = (3 : Int32) := hk3
        have n3 : k ≠ 3 := fun e => hk3 (by rw [e]; rfl)
        refine Wp.run ok_cut 2 86 #[.val (.ref b), .val (.int (Int32.ofNat k))] [(.int (4 : Int32)), (.int (Int32.ofNat k))] rfl ?_
        refine Wp.icmp ok_cut 124 rfl rfl (by decide) (by decide) (fun hk4 => ?_) (fun hk4 => ?_)
        · replace hk4 : ¬ (Int32.ofNat k) = (4 : Int32) := hk4
          have n4 : k ≠ 4 := fun e => hk4 (by rw [e]; rfl)
          refine Wp.run ok_cut 2 126 #[.val (.ref b), .val (.int (Int32.ofNat k))] [(.int (5 : Int32)), (.int (Int32.ofNat k))] rfl ?_
          refine Wp.icmp ok_cut 170 rfl rfl (by decide) (by decide) (fun hk5 => ?_) (fun hk5 => ?_)
          · replace hk5 : ¬ (Int32.ofNat k) = (5 : Int32) := hk5
            have n5 : k ≠ 5 := fun e => hk5 (by rw [e]; rfl)
            refine Wp.run ok_cut 2 173 #[.val (.ref b), .val (.int (Int32.ofNat k))] [(.int (6 : Int32)), (.int (Int32.ofNat k))] rfl ?_
            refine Wp.icmp ok_cut 224 rfl rfl (by decide) (by decide) (fun hk6 => ?_) (fun hk6 => ?_)
            · replace hk6 : ¬ (Int32.ofNat k) = (6 : Int32) := hk6
              have n6 : k ≠ 6 := fun e => hk6 (by rw [e]; rfl)
              refine Wp.run ok_cut 2 227 #[.val (.ref b), .val (.int (Int32.ofNat k))] [(.int (7 : Int32)), (.int (Int32.ofNat k))] rfl ?_
              refine Wp.icmp ok_cut 286 rfl rfl (by decide) (by decide) (fun hk7 => ?_) (fun hk7 => ?_)
              · replace hk7 : ¬ (Int32.ofNat k) = (7 : Int32) := hk7
                have n7 : k ≠ 7 := fun e => hk7 (by rw [e]; rfl)
                obtain rfl : k = 8 := by omega
                refine Wp.new ok_cut (G.1 _ (List.mem_of_getElem? (i := 6) rfl)) (G.1 _ (List.mem_of_getElem? (i := 7) rfl)) (G.1 _ (List.mem_of_getElem? (i := 8) rfl)) rfl (Nat.le_of_ble_eq_true rfl) (Nat.le_of_ble_eq_true rfl) ?_
                intro hn En Xn D_hn
                have F1_hn : Fld Z hn h.size "java/lang/String" "coder" "B" (.int 0) := D_hn (Or.inr (G.1 _ (List.mem_of_getElem? (i := 32) rfl))) (ty := .byte) (by decide)
                have F2_hn : Fld Z hn h.size "java/lang/String" "value" "[B" .null := D_hn (Or.inr (G.1 _ (List.mem_of_getElem? (i := 34) rfl))) (ty := .array .byte) (by decide)
                refine Wp.run ok_cut 2 292 #[.val (.ref b), .val (.int (Int32.ofNat 8))] [(.int (8 : Int32)), (.ref h.size), (.ref h.size)] rfl ?_
                refine Wp.newP ok_cut (len := 8) (cap := 8) (G.1 _ (List.mem_of_getElem? (i := 1) rfl)) rfl rfl rfl (Nat.le_of_ble_eq_true rfl) (Nat.le_of_ble_eq_true rfl) (Nat.le_of_ble_eq_true rfl) (Nat.le_of_ble_eq_true rfl) ?_
                intro hm Em Am
                refine Wp.run ok_cut 4 298 #[.val (.ref b), .val (.int (Int32.ofNat 8))] [(.int (0 : Int32)), (.ref b), (.int (0 : Int32)), (.ref hn.size), (.ref hn.size), (.ref h.size), (.ref h.size)] rfl ?_
                have hbd : b ≠ hn.size := fun q => absurd (A.ext En).lt (by rw [q]; exact Nat.lt_irrefl _)
                have A2 : Ar Z hm b .char ([x0, x1, x2, x3, x4, x5, x6, x7].map Value.int) := (A.ext En).ext Em
                refine Wp.aget ok_cut A2 (i := 0) (v := (.int x0)) rfl rfl rfl rfl rfl ?_
                refine Wp.aput ok_cut Am (List.mem_of_getElem? (i := 0) rfl) (i := 0) rfl (Nat.le_of_ble_eq_true rfl) rfl (fitc L0) rfl rfl rfl ?_
                intro hq1 wq2 Aq3
                refine Wp.run ok_cut 4 304 #[.val (.ref b), .val (.int (Int32.ofNat 8))] [(.int (1 : Int32)), (.ref b), (.int (1 : Int32)), (.ref hn.size), (.ref hn.size), (.ref h.size), (.ref h.size)] rfl ?_
                refine Wp.aget ok_cut (A2.other wq2 hbd) (i := 1) (v := (.int x1)) rfl rfl rfl rfl rfl ?_
                refine Wp.aput ok_cut Aq3 (List.mem_of_getElem? (i := 0) rfl) (i := 1) rfl (Nat.le_of_ble_eq_true rfl) rfl (fitc L1) rfl rfl rfl ?_
                intro hq4 wq5 Aq6
                refine Wp.run ok_cut 4 310 #[.val (.ref b), .val (.int (Int32.ofNat 8))] [(.int (2 : Int32)), (.ref b), (.int (2 : Int32)), (.ref hn.size), (.ref hn.size), (.ref h.size), (.ref h.size)] rfl ?_
                refine Wp.aget ok_cut ((A2.other wq2 hbd).other wq5 hbd) (i := 2) (v := (.int x2)) rfl rfl rfl rfl rfl ?_
                refine Wp.aput ok_cut Aq6 (List.mem_of_getElem? (i := 0) rfl) (i := 2) rfl (Nat.le_of_ble_eq_true rfl) rfl (fitc L2) rfl rfl rfl ?_
                intro hq7 wq8 Aq9
                refine Wp.run ok_cut 4 316 #[.val (.ref b), .val (.int (Int32.ofNat 8))] [(.int (3 : Int32)), (.ref b), (.int (3 : Int32)), (.ref hn.size), (.ref hn.size), (.ref h.size), (.ref h.size)] rfl ?_
                refine Wp.aget ok_cut (((A2.other wq2 hbd).other wq5 hbd).other wq8 hbd) (i := 3) (v := (.int x3)) rfl rfl rfl rfl rfl ?_
                refine Wp.aput ok_cut Aq9 (List.mem_of_getElem? (i := 0) rfl) (i := 3) rfl (Nat.le_of_ble_eq_true rfl) rfl (fitc L3) rfl rfl rfl ?_
                intro hq10 wq11 Aq12
                refine Wp.run ok_cut 4 322 #[.val (.ref b), .val (.int (Int32.ofNat 8))] [(.int (4 : Int32)), (.ref b), (.int (4 : Int32)), (.ref hn.size), (.ref hn.size), (.ref h.size), (.ref h.size)] rfl ?_
                refine Wp.aget ok_cut ((((A2.other wq2 hbd).other wq5 hbd).other wq8 hbd).other wq11 hbd) (i := 4) (v := (.int x4)) rfl rfl rfl rfl rfl ?_
                refine Wp.aput ok_cut Aq12 (List.mem_of_getElem? (i := 0) rfl) (i := 4) rfl (Nat.le_of_ble_eq_true rfl) rfl (fitc L4) rfl rfl rfl ?_
                intro hq13 wq14 Aq15
                refine Wp.run ok_cut 4 328 #[.val (.ref b), .val (.int (Int32.ofNat 8))] [(.int (5 : Int32)), (.ref b), (.int (5 : Int32)), (.ref hn.size), (.ref hn.size), (.ref h.size), (.ref h.size)] rfl ?_
                refine Wp.aget ok_cut (((((A2.other wq2 hbd).other wq5 hbd).other wq8 hbd).other wq11 hbd).other wq14 hbd) (i := 5) (v := (.int x5)) rfl rfl rfl rfl rfl ?_
                refine Wp.aput ok_cut Aq15 (List.mem_of_getElem? (i := 0) rfl) (i := 5) rfl (Nat.le_of_ble_eq_true rfl) rfl (fitc L5) rfl rfl rfl ?_
                intro hq16 wq17 Aq18
                refine Wp.run ok_cut 4 336 #[.val (.ref b), .val (.int (Int32.ofNat 8))] [(.int (6 : Int32)), (.ref b), (.int (6 : Int32)), (.ref hn.size), (.ref hn.size), (.ref h.size), (.ref h.size)] rfl ?_
                refine Wp.aget ok_cut ((((((A2.other wq2 hbd).other wq5 hbd).other wq8 hbd).other wq11 hbd).other wq14 hbd).other wq17 hbd) (i := 6) (v := (.int x6)) rfl rfl rfl rfl rfl ?_
                refine Wp.aput ok_cut Aq18 (List.mem_of_getElem? (i := 0) rfl) (i := 6) rfl (Nat.le_of_ble_eq_true rfl) rfl (fitc L6) rfl rfl rfl ?_
                intro hq19 wq20 Aq21
                refine Wp.run ok_cut 4 344 #[.val (.ref b), .val (.int (Int32.ofNat 8))] [(.int (7 : Int32)), (.ref b), (.int (7 : Int32)), (.ref hn.size), (.ref hn.size), (.ref h.size), (.ref h.size)] rfl ?_
                refine Wp.aget ok_cut (((((((A2.other wq2 hbd).other wq5 hbd).other wq8 hbd).other wq11 hbd).other wq14 hbd).other wq17 hbd).other wq20 hbd) (i := 7) (v := (.int x7)) rfl rfl rfl rfl rfl ?_
                refine Wp.aput ok_cut Aq21 (List.mem_of_getElem? (i := 0) rfl) (i := 7) rfl (Nat.le_of_ble_eq_true rfl) rfl (fitc L7) rfl rfl rfl ?_
                intro hq22 wq23 Aq24
                have Kn : Keep hm hq22 [hn.size] := (((((((((Keep.refl hm [hn.size]).trans (wr_keep wq2) (fun x hx => Or.inl hx)).trans (wr_keep wq5) (fun x hx => Or.inl hx)).trans (wr_keep wq8) (fun x hx => Or.inl hx)).trans (wr_keep wq11) (fun x hx => Or.inl hx)).trans (wr_keep wq14) (fun x hx => Or.inl hx)).trans (wr_keep wq17) (fun x hx => Or.inl hx)).trans (wr_keep wq20) (fun x hx => Or.inl hx)).trans (wr_keep wq23) (fun x hx => Or.inl hx))
                have nn : h.size ∉ [hn.size] := ninS (Nat.ne_of_lt Xn.lt) nin0
                have ln : Lat [x0, x1, x2, x3, x4, x5, x6, x7] := Lat.cons L0 (Lat.cons L1 (Lat.cons L2 (Lat.cons L3 (Lat.cons L4 (Lat.cons L5 (Lat.cons L6 (Lat.cons L7 (Lat.nil))))))))
                refine Wp.callI ok_cut (a := h.size) (argsL := [(.ref hn.size)]) (rest := [(.ref h.size)]) (ct_si1 G ln (Nat.le_of_ble_eq_true rfl) (by simp) hq22 ((Xn.ext Em).keep Kn) ((F1_hn.ext Em).keep Kn nn) ((F2_hn.ext Em).keep Kn nn) Aq24) G.2.1 (G.1 _ (List.mem_of_getElem? (i := 9) rfl)) (G.1 _ (List.mem_of_getElem? (i := 10) rfl)) (G.1 _ (List.mem_of_getElem? (i := 8) rfl)) (G.1 _ (List.mem_of_getElem? (i := 11) rfl)) rfl rfl rfl rfl (by decide) pd_si1 rfl rfl (Nat.le_of_ble_eq_true rfl) (Nat.le_of_ble_eq_true rfl) (Nat.le_of_ble_eq_true rfl) (Nat.le_of_ble_eq_true rfl) (allS (List.mem_of_getElem? (i := 1) rfl) all0) ?_
                rintro _ hs ⟨rfl, Ks, Ss⟩ -
                have Es : Ext h hs := ext_keep (ext_keep (ext_trans En Em) Kn (all1 En.1)) Ks (all1 (Nat.le_refl _))
                exact Wp.retA ok_cut (t := (.object "java/lang/String")) rfl rfl rfl rfl rfl ⟨_, rfl, Es, Ss⟩
              · replace hk7 : (Int32.ofNat k) = (7 : Int32) := hk7
                obtain rfl : k = 7 := (n_eq (by omega) (by decide)).mp hk7
                refine Wp.new ok_cut (G.1 _ (List.mem_of_getElem? (i := 6) rfl)) (G.1 _ (List.mem_of_getElem? (i := 7) rfl)) (G.1 _ (List.mem_of_getElem? (i := 8) rfl)) rfl (Nat.le_of_ble_eq_true rfl) (Nat.le_of_ble_eq_true rfl) ?_
                intro hn En Xn D_hn
                have F1_hn : Fld Z hn h.size "java/lang/String" "coder" "B" (.int 0) := D_hn (Or.inr (G.1 _ (List.mem_of_getElem? (i := 32) rfl))) (ty := .byte) (by decide)
                have F2_hn : Fld Z hn h.size "java/lang/String" "value" "[B" .null := D_hn (Or.inr (G.1 _ (List.mem_of_getElem? (i := 34) rfl))) (ty := .array .byte) (by decide)
                refine Wp.run ok_cut 2 236 #[.val (.ref b), .val (.int (Int32.ofNat 7))] [(.int (7 : Int32)), (.ref h.size), (.ref h.size)] rfl ?_
                refine Wp.newP ok_cut (len := 7) (cap := 7) (G.1 _ (List.mem_of_getElem? (i := 1) rfl)) rfl rfl rfl (Nat.le_of_ble_eq_true rfl) (Nat.le_of_ble_eq_true rfl) (Nat.le_of_ble_eq_true rfl) (Nat.le_of_ble_eq_true rfl) ?_
                intro hm Em Am
                refine Wp.run ok_cut 4 242 #[.val (.ref b), .val (.int (Int32.ofNat 7))] [(.int (0 : Int32)), (.ref b), (.int (0 : Int32)), (.ref hn.size), (.ref hn.size), (.ref h.size), (.ref h.size)] rfl ?_
                have hbd : b ≠ hn.size := fun q => absurd (A.ext En).lt (by rw [q]; exact Nat.lt_irrefl _)
                have A2 : Ar Z hm b .char ([x0, x1, x2, x3, x4, x5, x6, x7].map Value.int) := (A.ext En).ext Em
                refine Wp.aget ok_cut A2 (i := 0) (v := (.int x0)) rfl rfl rfl rfl rfl ?_
                refine Wp.aput ok_cut Am (List.mem_of_getElem? (i := 0) rfl) (i := 0) rfl (Nat.le_of_ble_eq_true rfl) rfl (fitc L0) rfl rfl rfl ?_
                intro hq25 wq26 Aq27
                refine Wp.run ok_cut 4 248 #[.val (.ref b), .val (.int (Int32.ofNat 7))] [(.int (1 : Int32)), (.ref b), (.int (1 : Int32)), (.ref hn.size), (.ref hn.size), (.ref h.size), (.ref h.size)] rfl ?_
                refine Wp.aget ok_cut (A2.other wq26 hbd) (i := 1) (v := (.int x1)) rfl rfl rfl rfl rfl ?_
                refine Wp.aput ok_cut Aq27 (List.mem_of_getElem? (i := 0) rfl) (i := 1) rfl (Nat.le_of_ble_eq_true rfl) rfl (fitc L1) rfl rfl rfl ?_
                intro hq28 wq29 Aq30
                refine Wp.run ok_cut 4 254 #[.val (.ref b), .val (.int (Int32.ofNat 7))] [(.int (2 : Int32)), (.ref b), (.int (2 : Int32)), (.ref hn.size), (.ref hn.size), (.ref h.size), (.ref h.size)] rfl ?_
                refine Wp.aget ok_cut ((A2.other wq26 hbd).other wq29 hbd) (i := 2) (v := (.int x2)) rfl rfl rfl rfl rfl ?_
                refine Wp.aput ok_cut Aq30 (List.mem_of_getElem? (i := 0) rfl) (i := 2) rfl (Nat.le_of_ble_eq_true rfl) rfl (fitc L2) rfl rfl rfl ?_
                intro hq31 wq32 Aq33
                refine Wp.run ok_cut 4 260 #[.val (.ref b), .val (.int (Int32.ofNat 7))] [(.int (3 : Int32)), (.ref b), (.int (3 : Int32)), (.ref hn.size), (.ref hn.size), (.ref h.size), (.ref h.size)] rfl ?_
                refine Wp.aget ok_cut (((A2.other wq26 hbd).other wq29 hbd).other wq32 hbd) (i := 3) (v := (.int x3)) rfl rfl rfl rfl rfl ?_
                refine Wp.aput ok_cut Aq33 (List.mem_of_getElem? (i := 0) rfl) (i := 3) rfl (Nat.le_of_ble_eq_true rfl) rfl (fitc L3) rfl rfl rfl ?_
                intro hq34 wq35 Aq36
                refine Wp.run ok_cut 4 266 #[.val (.ref b), .val (.int (Int32.ofNat 7))] [(.int (4 : Int32)), (.ref b), (.int (4 : Int32)), (.ref hn.size), (.ref hn.size), (.ref h.size), (.ref h.size)] rfl ?_
                refine Wp.aget ok_cut ((((A2.other wq26 hbd).other wq29 hbd).other wq32 hbd).other wq35 hbd) (i := 4) (v := (.int x4)) rfl rfl rfl rfl rfl ?_
                refine Wp.aput ok_cut Aq36 (List.mem_of_getElem? (i := 0) rfl) (i := 4) rfl (Nat.le_of_ble_eq_true rfl) rfl (fitc L4) rfl rfl rfl ?_
                intro hq37 wq38 Aq39
                refine Wp.run ok_cut 4 272 #[.val (.ref b), .val (.int (Int32.ofNat 7))] [(.int (5 : Int32)), (.ref b), (.int (5 : Int32)), (.ref hn.size), (.ref hn.size), (.ref h.size), (.ref h.size)] rfl ?_
                refine Wp.aget ok_cut (((((A2.other wq26 hbd).other wq29 hbd).other wq32 hbd).other wq35 hbd).other wq38 hbd) (i := 5) (v := (.int x5)) rfl rfl rfl rfl rfl ?_
                refine Wp.aput ok_cut Aq39 (List.mem_of_getElem? (i := 0) rfl) (i := 5) rfl (Nat.le_of_ble_eq_true rfl) rfl (fitc L5) rfl rfl rfl ?_
                intro hq40 wq41 Aq42
                refine Wp.run ok_cut 4 280 #[.val (.ref b), .val (.int (Int32.ofNat 7))] [(.int (6 : Int32)), (.ref b), (.int (6 : Int32)), (.ref hn.size), (.ref hn.size), (.ref h.size), (.ref h.size)] rfl ?_
                refine Wp.aget ok_cut ((((((A2.other wq26 hbd).other wq29 hbd).other wq32 hbd).other wq35 hbd).other wq38 hbd).other wq41 hbd) (i := 6) (v := (.int x6)) rfl rfl rfl rfl rfl ?_
                refine Wp.aput ok_cut Aq42 (List.mem_of_getElem? (i := 0) rfl) (i := 6) rfl (Nat.le_of_ble_eq_true rfl) rfl (fitc L6) rfl rfl rfl ?_
                intro hq43 wq44 Aq45
                have Kn : Keep hm hq43 [hn.size] := ((((((((Keep.refl hm [hn.size]).trans (wr_keep wq26) (fun x hx => Or.inl hx)).trans (wr_keep wq29) (fun x hx => Or.inl hx)).trans (wr_keep wq32) (fun x hx => Or.inl hx)).trans (wr_keep wq35) (fun x hx => Or.inl hx)).trans (wr_keep wq38) (fun x hx => Or.inl hx)).trans (wr_keep wq41) (fun x hx => Or.inl hx)).trans (wr_keep wq44) (fun x hx => Or.inl hx))
                have nn : h.size ∉ [hn.size] := ninS (Nat.ne_of_lt Xn.lt) nin0
                have ln : Lat [x0, x1, x2, x3, x4, x5, x6] := Lat.cons L0 (Lat.cons L1 (Lat.cons L2 (Lat.cons L3 (Lat.cons L4 (Lat.cons L5 (Lat.cons L6 (Lat.nil)))))))
                refine Wp.callI ok_cut (a := h.size) (argsL := [(.ref hn.size)]) (rest := [(.ref h.size)]) (ct_si1 G ln (Nat.le_of_ble_eq_true rfl) (by simp) hq43 ((Xn.ext Em).keep Kn) ((F1_hn.ext Em).keep Kn nn) ((F2_hn.ext Em).keep Kn nn) Aq45) G.2.1 (G.1 _ (List.mem_of_getElem? (i := 9) rfl)) (G.1 _ (List.mem_of_getElem? (i := 10) rfl)) (G.1 _ (List.mem_of_getElem? (i := 8) rfl)) (G.1 _ (List.mem_of_getElem? (i := 11) rfl)) rfl rfl rfl rfl (by decide) pd_si1 rfl rfl (Nat.le_of_ble_eq_true rfl) (Nat.le_of_ble_eq_true rfl) (Nat.le_of_ble_eq_true rfl) (Nat.le_of_ble_eq_true rfl) (allS (List.mem_of_getElem? (i := 1) rfl) all0) ?_
                rintro _ hs ⟨rfl, Ks, Ss⟩ -
                have Es : Ext h hs := ext_keep (ext_keep (ext_trans En Em) Kn (all1 En.1)) Ks (all1 (Nat.le_refl _))
                exact Wp.retA ok_cut (t := (.object "java/lang/String")) rfl rfl rfl rfl rfl ⟨_, rfl, Es, Ss⟩
            · replace hk6 : (Int32.ofNat k) = (6 : Int32) := hk6
              obtain rfl : k = 6 := (n_eq (by omega) (by decide)).mp hk6
              refine Wp.new ok_cut (G.1 _ (List.mem_of_getElem? (i := 6) rfl)) (G.1 _ (List.mem_of_getElem? (i := 7) rfl)) (G.1 _ (List.mem_of_getElem? (i := 8) rfl)) rfl (Nat.le_of_ble_eq_true rfl) (Nat.le_of_ble_eq_true rfl) ?_
              intro hn En Xn D_hn
              have F1_hn : Fld Z hn h.size "java/lang/String" "coder" "B" (.int 0) := D_hn (Or.inr (G.1 _ (List.mem_of_getElem? (i := 32) rfl))) (ty := .byte) (by decide)
              have F2_hn : Fld Z hn h.size "java/lang/String" "value" "[B" .null := D_hn (Or.inr (G.1 _ (List.mem_of_getElem? (i := 34) rfl))) (ty := .array .byte) (by decide)
              refine Wp.run ok_cut 2 182 #[.val (.ref b), .val (.int (Int32.ofNat 6))] [(.int (6 : Int32)), (.ref h.size), (.ref h.size)] rfl ?_
              refine Wp.newP ok_cut (len := 6) (cap := 6) (G.1 _ (List.mem_of_getElem? (i := 1) rfl)) rfl rfl rfl (Nat.le_of_ble_eq_true rfl) (Nat.le_of_ble_eq_true rfl) (Nat.le_of_ble_eq_true rfl) (Nat.le_of_ble_eq_true rfl) ?_
              intro hm Em Am
              refine Wp.run ok_cut 4 188 #[.val (.ref b), .val (.int (Int32.ofNat 6))] [(.int (0 : Int32)), (.ref b), (.int (0 : Int32)), (.ref hn.size), (.ref hn.size), (.ref h.size), (.ref h.size)] rfl ?_
              have hbd : b ≠ hn.size := fun q => absurd (A.ext En).lt (by rw [q]; exact Nat.lt_irrefl _)
              have A2 : Ar Z hm b .char ([x0, x1, x2, x3, x4, x5, x6, x7].map Value.int) := (A.ext En).ext Em
              refine Wp.aget ok_cut A2 (i := 0) (v := (.int x0)) rfl rfl rfl rfl rfl ?_
              refine Wp.aput ok_cut Am (List.mem_of_getElem? (i := 0) rfl) (i := 0) rfl (Nat.le_of_ble_eq_true rfl) rfl (fitc L0) rfl rfl rfl ?_
              intro hq46 wq47 Aq48
              refine Wp.run ok_cut 4 194 #[.val (.ref b), .val (.int (Int32.ofNat 6))] [(.int (1 : Int32)), (.ref b), (.int (1 : Int32)), (.ref hn.size), (.ref hn.size), (.ref h.size), (.ref h.size)] rfl ?_
              refine Wp.aget ok_cut (A2.other wq47 hbd) (i := 1) (v := (.int x1)) rfl rfl rfl rfl rfl ?_
              refine Wp.aput ok_cut Aq48 (List.mem_of_getElem? (i := 0) rfl) (i := 1) rfl (Nat.le_of_ble_eq_true rfl) rfl (fitc L1) rfl rfl rfl ?_
              intro hq49 wq50 Aq51
              refine Wp.run ok_cut 4 200 #[.val (.ref b), .val (.int (Int32.ofNat 6))] [(.int (2 : Int32)), (.ref b), (.int (2 : Int32)), (.ref hn.size), (.ref hn.size), (.ref h.size), (.ref h.size)] rfl ?_
              refine Wp.aget ok_cut ((A2.other wq47 hbd).other wq50 hbd) (i := 2) (v := (.int x2)) rfl rfl rfl rfl rfl ?_
              refine Wp.aput ok_cut Aq51 (List.mem_of_getElem? (i := 0) rfl) (i := 2) rfl (Nat.le_of_ble_eq_true rfl) rfl (fitc L2) rfl rfl rfl ?_
              intro hq52 wq53 Aq54
              refine Wp.run ok_cut 4 206 #[.val (.ref b), .val (.int (Int32.ofNat 6))] [(.int (3 : Int32)), (.ref b), (.int (3 : Int32)), (.ref hn.size), (.ref hn.size), (.ref h.size), (.ref h.size)] rfl ?_
              refine Wp.aget ok_cut (((A2.other wq47 hbd).other wq50 hbd).other wq53 hbd) (i := 3) (v := (.int x3)) rfl rfl rfl rfl rfl ?_
              refine Wp.aput ok_cut Aq54 (List.mem_of_getElem? (i := 0) rfl) (i := 3) rfl (Nat.le_of_ble_eq_true rfl) rfl (fitc L3) rfl rfl rfl ?_
              intro hq55 wq56 Aq57
              refine Wp.run ok_cut 4 212 #[.val (.ref b), .val (.int (Int32.ofNat 6))] [(.int (4 : Int32)), (.ref b), (.int (4 : Int32)), (.ref hn.size), (.ref hn.size), (.ref h.size), (.ref h.size)] rfl ?_
              refine Wp.aget ok_cut ((((A2.other wq47 hbd).other wq50 hbd).other wq53 hbd).other wq56 hbd) (i := 4) (v := (.int x4)) rfl rfl rfl rfl rfl ?_
              refine Wp.aput ok_cut Aq57 (List.mem_of_getElem? (i := 0) rfl) (i := 4) rfl (Nat.le_of_ble_eq_true rfl) rfl (fitc L4) rfl rfl rfl ?_
              intro hq58 wq59 Aq60
              refine Wp.run ok_cut 4 218 #[.val (.ref b), .val (.int (Int32.ofNat 6))] [(.int (5 : Int32)), (.ref b), (.int (5 : Int32)), (.ref hn.size), (.ref hn.size), (.ref h.size), (.ref h.size)] rfl ?_
              refine Wp.aget ok_cut (((((A2.other wq47 hbd).other wq50 hbd).other wq53 hbd).other wq56 hbd).other wq59 hbd) (i := 5) (v := (.int x5)) rfl rfl rfl rfl rfl ?_
              refine Wp.aput ok_cut Aq60 (List.mem_of_getElem? (i := 0) rfl) (i := 5) rfl (Nat.le_of_ble_eq_true rfl) rfl (fitc L5) rfl rfl rfl ?_
              intro hq61 wq62 Aq63
              have Kn : Keep hm hq61 [hn.size] := (((((((Keep.refl hm [hn.size]).trans (wr_keep wq47) (fun x hx => Or.inl hx)).trans (wr_keep wq50) (fun x hx => Or.inl hx)).trans (wr_keep wq53) (fun x hx => Or.inl hx)).trans (wr_keep wq56) (fun x hx => Or.inl hx)).trans (wr_keep wq59) (fun x hx => Or.inl hx)).trans (wr_keep wq62) (fun x hx => Or.inl hx))
              have nn : h.size ∉ [hn.size] := ninS (Nat.ne_of_lt Xn.lt) nin0
              have ln : Lat [x0, x1, x2, x3, x4, x5] := Lat.cons L0 (Lat.cons L1 (Lat.cons L2 (Lat.cons L3 (Lat.cons L4 (Lat.cons L5 (Lat.nil))))))
              refine Wp.callI ok_cut (a := h.size) (argsL := [(.ref hn.size)]) (rest := [(.ref h.size)]) (ct_si1 G ln (Nat.le_of_ble_eq_true rfl) (by simp) hq61 ((Xn.ext Em).keep Kn) ((F1_hn.ext Em).keep Kn nn) ((F2_hn.ext Em).keep Kn nn) Aq63) G.2.1 (G.1 _ (List.mem_of_getElem? (i := 9) rfl)) (G.1 _ (List.mem_of_getElem? (i := 10) rfl)) (G.1 _ (List.mem_of_getElem? (i := 8) rfl)) (G.1 _ (List.mem_of_getElem? (i := 11) rfl)) rfl rfl rfl rfl (by decide) pd_si1 rfl rfl (Nat.le_of_ble_eq_true rfl) (Nat.le_of_ble_eq_true rfl) (Nat.le_of_ble_eq_true rfl) (Nat.le_of_ble_eq_true rfl) (allS (List.mem_of_getElem? (i := 1) rfl) all0) ?_
              rintro _ hs ⟨rfl, Ks, Ss⟩ -
              have Es : Ext h hs := ext_keep (ext_keep (ext_trans En Em) Kn (all1 En.1)) Ks (all1 (Nat.le_refl _))
              exact Wp.retA ok_cut (t := (.object "java/lang/String")) rfl rfl rfl rfl rfl ⟨_, rfl, Es, Ss⟩
          · replace hk5 : (Int32.ofNat k) = (5 : Int32) := hk5
            obtain rfl : k = 5 := (n_eq (by omega) (by decide)).mp hk5
            refine Wp.new ok_cut (G.1 _ (List.mem_of_getElem? (i := 6) rfl)) (G.1 _ (List.mem_of_getElem? (i := 7) rfl)) (G.1 _ (List.mem_of_getElem? (i := 8) rfl)) rfl (Nat.le_of_ble_eq_true rfl) (Nat.le_of_ble_eq_true rfl) ?_
            intro hn En Xn D_hn
            have F1_hn : Fld Z hn h.size "java/lang/String" "coder" "B" (.int 0) := D_hn (Or.inr (G.1 _ (List.mem_of_getElem? (i := 32) rfl))) (ty := .byte) (by decide)
            have F2_hn : Fld Z hn h.size "java/lang/String" "value" "[B" .null := D_hn (Or.inr (G.1 _ (List.mem_of_getElem? (i := 34) rfl))) (ty := .array .byte) (by decide)
            refine Wp.run ok_cut 2 134 #[.val (.ref b), .val (.int (Int32.ofNat 5))] [(.int (5 : Int32)), (.ref h.size), (.ref h.size)] rfl ?_
            refine Wp.newP ok_cut (len := 5) (cap := 5) (G.1 _ (List.mem_of_getElem? (i := 1) rfl)) rfl rfl rfl (Nat.le_of_ble_eq_true rfl) (Nat.le_of_ble_eq_true rfl) (Nat.le_of_ble_eq_true rfl) (Nat.le_of_ble_eq_true rfl) ?_
            intro hm Em Am
            refine Wp.run ok_cut 4 140 #[.val (.ref b), .val (.int (Int32.ofNat 5))] [(.int (0 : Int32)), (.ref b), (.int (0 : Int32)), (.ref hn.size), (.ref hn.size), (.ref h.size), (.ref h.size)] rfl ?_
            have hbd : b ≠ hn.size := fun q => absurd (A.ext En).lt (by rw [q]; exact Nat.lt_irrefl _)
            have A2 : Ar Z hm b .char ([x0, x1, x2, x3, x4, x5, x6, x7].map Value.int) := (A.ext En).ext Em
            refine Wp.aget ok_cut A2 (i := 0) (v := (.int x0)) rfl rfl rfl rfl rfl ?_
            refine Wp.aput ok_cut Am (List.mem_of_getElem? (i := 0) rfl) (i := 0) rfl (Nat.le_of_ble_eq_true rfl) rfl (fitc L0) rfl rfl rfl ?_
            intro hq64 wq65 Aq66
            refine Wp.run ok_cut 4 146 #[.val (.ref b), .val (.int (Int32.ofNat 5))] [(.int (1 : Int32)), (.ref b), (.int (1 : Int32)), (.ref hn.size), (.ref hn.size), (.ref h.size), (.ref h.size)] rfl ?_
            refine Wp.aget ok_cut (A2.other wq65 hbd) (i := 1) (v := (.int x1)) rfl rfl rfl rfl rfl ?_
            refine Wp.aput ok_cut Aq66 (List.mem_of_getElem? (i := 0) rfl) (i := 1) rfl (Nat.le_of_ble_eq_true rfl) rfl (fitc L1) rfl rfl rfl ?_
            intro hq67 wq68 Aq69
            refine Wp.run ok_cut 4 152 #[.val (.ref b), .val (.int (Int32.ofNat 5))] [(.int (2 : Int32)), (.ref b), (.int (2 : Int32)), (.ref hn.size), (.ref hn.size), (.ref h.size), (.ref h.size)] rfl ?_
            refine Wp.aget ok_cut ((A2.other wq65 hbd).other wq68 hbd) (i := 2) (v := (.int x2)) rfl rfl rfl rfl rfl ?_
            refine Wp.aput ok_cut Aq69 (List.mem_of_getElem? (i := 0) rfl) (i := 2) rfl (Nat.le_of_ble_eq_true rfl) rfl (fitc L2) rfl rfl rfl ?_
            intro hq70 wq71 Aq72
            refine Wp.run ok_cut 4 158 #[.val (.ref b), .val (.int (Int32.ofNat 5))] [(.int (3 : Int32)), (.ref b), (.int (3 : Int32)), (.ref hn.size), (.ref hn.size), (.ref h.size), (.ref h.size)] rfl ?_
            refine Wp.aget ok_cut (((A2.other wq65 hbd).other wq68 hbd).other wq71 hbd) (i := 3) (v := (.int x3)) rfl rfl rfl rfl rfl ?_
            refine Wp.aput ok_cut Aq72 (List.mem_of_getElem? (i := 0) rfl) (i := 3) rfl (Nat.le_of_ble_eq_true rfl) rfl (fitc L3) rfl rfl rfl ?_
            intro hq73 wq74 Aq75
            refine Wp.run ok_cut 4 164 #[.val (.ref b), .val (.int (Int32.ofNat 5))] [(.int (4 : Int32)), (.ref b), (.int (4 : Int32)), (.ref hn.size), (.ref hn.size), (.ref h.size), (.ref h.size)] rfl ?_
            refine Wp.aget ok_cut ((((A2.other wq65 hbd).other wq68 hbd).other wq71 hbd).other wq74 hbd) (i := 4) (v := (.int x4)) rfl rfl rfl rfl rfl ?_
            refine Wp.aput ok_cut Aq75 (List.mem_of_getElem? (i := 0) rfl) (i := 4) rfl (Nat.le_of_ble_eq_true rfl) rfl (fitc L4) rfl rfl rfl ?_
            intro hq76 wq77 Aq78
            have Kn : Keep hm hq76 [hn.size] := ((((((Keep.refl hm [hn.size]).trans (wr_keep wq65) (fun x hx => Or.inl hx)).trans (wr_keep wq68) (fun x hx => Or.inl hx)).trans (wr_keep wq71) (fun x hx => Or.inl hx)).trans (wr_keep wq74) (fun x hx => Or.inl hx)).trans (wr_keep wq77) (fun x hx => Or.inl hx))
            have nn : h.size ∉ [hn.size] := ninS (Nat.ne_of_lt Xn.lt) nin0
            have ln : Lat [x0, x1, x2, x3, x4] := Lat.cons L0 (Lat.cons L1 (Lat.cons L2 (Lat.cons L3 (Lat.cons L4 (Lat.nil)))))
            refine Wp.callI ok_cut (a := h.size) (argsL := [(.ref hn.size)]) (rest := [(.ref h.size)]) (ct_si1 G ln (Nat.le_of_ble_eq_true rfl) (by simp) hq76 ((Xn.ext Em).keep Kn) ((F1_hn.ext Em).keep Kn nn) ((F2_hn.ext Em).keep Kn nn) Aq78) G.2.1 (G.1 _ (List.mem_of_getElem? (i := 9) rfl)) (G.1 _ (List.mem_of_getElem? (i := 10) rfl)) (G.1 _ (List.mem_of_getElem? (i := 8) rfl)) (G.1 _ (List.mem_of_getElem? (i := 11) rfl)) rfl rfl rfl rfl (by decide) pd_si1 rfl rfl (Nat.le_of_ble_eq_true rfl) (Nat.le_of_ble_eq_true rfl) (Nat.le_of_ble_eq_true rfl) (Nat.le_of_ble_eq_true rfl) (allS (List.mem_of_getElem? (i := 1) rfl) all0) ?_
            rintro _ hs ⟨rfl, Ks, Ss⟩ -
            have Es : Ext h hs := ext_keep (ext_keep (ext_trans En Em) Kn (all1 En.1)) Ks (all1 (Nat.le_refl _))
            exact Wp.retA ok_cut (t := (.object "java/lang/String")) rfl rfl rfl rfl rfl ⟨_, rfl, Es, Ss⟩
        · replace hk4 : (Int32.ofNat k) = (4 : Int32) := hk4
          obtain rfl : k = 4 := (n_eq (by omega) (by decide)).mp hk4
          refine Wp.new ok_cut (G.1 _ (List.mem_of_getElem? (i := 6) rfl)) (G.1 _ (List.mem_of_getElem? (i := 7) rfl)) (G.1 _ (List.mem_of_getElem? (i := 8) rfl)) rfl (Nat.le_of_ble_eq_true rfl) (Nat.le_of_ble_eq_true rfl) ?_
          intro hn En Xn D_hn
          have F1_hn : Fld Z hn h.size "java/lang/String" "coder" "B" (.int 0) := D_hn (Or.inr (G.1 _ (List.mem_of_getElem? (i := 32) rfl))) (ty := .byte) (by decide)
          have F2_hn : Fld Z hn h.size "java/lang/String" "value" "[B" .null := D_hn (Or.inr (G.1 _ (List.mem_of_getElem? (i := 34) rfl))) (ty := .array .byte) (by decide)
          refine Wp.run ok_cut 2 94 #[.val (.ref b), .val (.int (Int32.ofNat 4))] [(.int (4 : Int32)), (.ref h.size), (.ref h.size)] rfl ?_
          refine Wp.newP ok_cut (len := 4) (cap := 4) (G.1 _ (List.mem_of_getElem? (i := 1) rfl)) rfl rfl rfl (Nat.le_of_ble_eq_true rfl) (Nat.le_of_ble_eq_true rfl) (Nat.le_of_ble_eq_true rfl) (Nat.le_of_ble_eq_true rfl) ?_
          intro hm Em Am
          refine Wp.run ok_cut 4 100 #[.val (.ref b), .val (.int (Int32.ofNat 4))] [(.int (0 : Int32)), (.ref b), (.int (0 : Int32)), (.ref hn.size), (.ref hn.size), (.ref h.size), (.ref h.size)] rfl ?_
          have hbd : b ≠ hn.size := fun q => absurd (A.ext En).lt (by rw [q]; exact Nat.lt_irrefl _)
          have A2 : Ar Z hm b .char ([x0, x1, x2, x3, x4, x5, x6, x7].map Value.int) := (A.ext En).ext Em
          refine Wp.aget ok_cut A2 (i := 0) (v := (.int x0)) rfl rfl rfl rfl rfl ?_
          refine Wp.aput ok_cut Am (List.mem_of_getElem? (i := 0) rfl) (i := 0) rfl (Nat.le_of_ble_eq_true rfl) rfl (fitc L0) rfl rfl rfl ?_
          intro hq79 wq80 Aq81
          refine Wp.run ok_cut 4 106 #[.val (.ref b), .val (.int (Int32.ofNat 4))] [(.int (1 : Int32)), (.ref b), (.int (1 : Int32)), (.ref hn.size), (.ref hn.size), (.ref h.size), (.ref h.size)] rfl ?_
          refine Wp.aget ok_cut (A2.other wq80 hbd) (i := 1) (v := (.int x1)) rfl rfl rfl rfl rfl ?_
          refine Wp.aput ok_cut Aq81 (List.mem_of_getElem? (i := 0) rfl) (i := 1) rfl (Nat.le_of_ble_eq_true rfl) rfl (fitc L1) rfl rfl rfl ?_
          intro hq82 wq83 Aq84
          refine Wp.run ok_cut 4 112 #[.val (.ref b), .val (.int (Int32.ofNat 4))] [(.int (2 : Int32)), (.ref b), (.int (2 : Int32)), (.ref hn.size), (.ref hn.size), (.ref h.size), (.ref h.size)] rfl ?_
          refine Wp.aget ok_cut ((A2.other wq80 hbd).other wq83 hbd) (i := 2) (v := (.int x2)) rfl rfl rfl rfl rfl ?_
          refine Wp.aput ok_cut Aq84 (List.mem_of_getElem? (i := 0) rfl) (i := 2) rfl (Nat.le_of_ble_eq_true rfl) rfl (fitc L2) rfl rfl rfl ?_
          intro hq85 wq86 Aq87
          refine Wp.run ok_cut 4 118 #[.val (.ref b), .val (.int (Int32.ofNat 4))] [(.int (3 : Int32)), (.ref b), (.int (3 : Int32)), (.ref hn.size), (.ref hn.size), (.ref h.size), (.ref h.size)] rfl ?_
          refine Wp.aget ok_cut (((A2.other wq80 hbd).other wq83 hbd).other wq86 hbd) (i := 3) (v := (.int x3)) rfl rfl rfl rfl rfl ?_
          refine Wp.aput ok_cut Aq87 (List.mem_of_getElem? (i := 0) rfl) (i := 3) rfl (Nat.le_of_ble_eq_true rfl) rfl (fitc L3) rfl rfl rfl ?_
          intro hq88 wq89 Aq90
          have Kn : Keep hm hq88 [hn.size] := (((((Keep.refl hm [hn.size]).trans (wr_keep wq80) (fun x hx => Or.inl hx)).trans (wr_keep wq83) (fun x hx => Or.inl hx)).trans (wr_keep wq86) (fun x hx => Or.inl hx)).trans (wr_keep wq89) (fun x hx => Or.inl hx))
          have nn : h.size ∉ [hn.size] := ninS (Nat.ne_of_lt Xn.lt) nin0
          have ln : Lat [x0, x1, x2, x3] := Lat.cons L0 (Lat.cons L1 (Lat.cons L2 (Lat.cons L3 (Lat.nil))))
          refine Wp.callI ok_cut (a := h.size) (argsL := [(.ref hn.size)]) (rest := [(.ref h.size)]) (ct_si1 G ln (Nat.le_of_ble_eq_true rfl) (by simp) hq88 ((Xn.ext Em).keep Kn) ((F1_hn.ext Em).keep Kn nn) ((F2_hn.ext Em).keep Kn nn) Aq90) G.2.1 (G.1 _ (List.mem_of_getElem? (i := 9) rfl)) (G.1 _ (List.mem_of_getElem? (i := 10) rfl)) (G.1 _ (List.mem_of_getElem? (i := 8) rfl)) (G.1 _ (List.mem_of_getElem? (i := 11) rfl)) rfl rfl rfl rfl (by decide) pd_si1 rfl rfl (Nat.le_of_ble_eq_true rfl) (Nat.le_of_ble_eq_true rfl) (Nat.le_of_ble_eq_true rfl) (Nat.le_of_ble_eq_true rfl) (allS (List.mem_of_getElem? (i := 1) rfl) all0) ?_
          rintro _ hs ⟨rfl, Ks, Ss⟩ -
          have Es : Ext h hs := ext_keep (ext_keep (ext_trans En Em) Kn (all1 En.1)) Ks (all1 (Nat.le_refl _))
          exact Wp.retA ok_cut (t := (.object "java/lang/String")) rfl rfl rfl rfl rfl ⟨_, rfl, Es, Ss⟩
      · replace hk3 : (Int32.ofNat k) = (3 : Int32) := hk3
        obtain rfl : k = 3 := (n_eq (by omega) (by decide)).mp hk3
        refine Wp.new ok_cut (G.1 _ (List.mem_of_getElem? (i := 6) rfl)) (G.1 _ (List.mem_of_getElem? (i := 7) rfl)) (G.1 _ (List.mem_of_getElem? (i := 8) rfl)) rfl (Nat.le_of_ble_eq_true rfl) (Nat.le_of_ble_eq_true rfl) ?_
        intro hn En Xn D_hn
        have F1_hn : Fld Z hn h.size "java/lang/String" "coder" "B" (.int 0) := D_hn (Or.inr (G.1 _ (List.mem_of_getElem? (i := 32) rfl))) (ty := .byte) (by decide)
        have F2_hn : Fld Z hn h.size "java/lang/String" "value" "[B" .null := D_hn (Or.inr (G.1 _ (List.mem_of_getElem? (i := 34) rfl))) (ty := .array .byte) (by decide)
        refine Wp.run ok_cut 2 60 #[.val (.ref b), .val (.int (Int32.ofNat 3))] [(.int (3 : Int32)), (.ref h.size), (.ref h.size)] rfl ?_
        refine Wp.newP ok_cut (len := 3) (cap := 3) (G.1 _ (List.mem_of_getElem? (i := 1) rfl)) rfl rfl rfl (Nat.le_of_ble_eq_true rfl) (Nat.le_of_ble_eq_true rfl) (Nat.le_of_ble_eq_true rfl) (Nat.le_of_ble_eq_true rfl) ?_
        intro hm Em Am
        refine Wp.run ok_cut 4 66 #[.val (.ref b), .val (.int (Int32.ofNat 3))] [(.int (0 : Int32)), (.ref b), (.int (0 : Int32)), (.ref hn.size), (.ref hn.size), (.ref h.size), (.ref h.size)] rfl ?_
        have hbd : b ≠ hn.size := fun q => absurd (A.ext En).lt (by rw [q]; exact Nat.lt_irrefl _)
        have A2 : Ar Z hm b .char ([x0, x1, x2, x3, x4, x5, x6, x7].map Value.int) := (A.ext En).ext Em
        refine Wp.aget ok_cut A2 (i := 0) (v := (.int x0)) rfl rfl rfl rfl rfl ?_
        refine Wp.aput ok_cut Am (List.mem_of_getElem? (i := 0) rfl) (i := 0) rfl (Nat.le_of_ble_eq_true rfl) rfl (fitc L0) rfl rfl rfl ?_
        intro hq91 wq92 Aq93
        refine Wp.run ok_cut 4 72 #[.val (.ref b), .val (.int (Int32.ofNat 3))] [(.int (1 : Int32)), (.ref b), (.int (1 : Int32)), (.ref hn.size), (.ref hn.size), (.ref h.size), (.ref h.size)] rfl ?_
        refine Wp.aget ok_cut (A2.other wq92 hbd) (i := 1) (v := (.int x1)) rfl rfl rfl rfl rfl ?_
        refine Wp.aput ok_cut Aq93 (List.mem_of_getElem? (i := 0) rfl) (i := 1) rfl (Nat.le_of_ble_eq_true rfl) rfl (fitc L1) rfl rfl rfl ?_
        intro hq94 wq95 Aq96
        refine Wp.run ok_cut 4 78 #[.val (.ref b), .val (.int (Int32.ofNat 3))] [(.int (2 : Int32)), (.ref b), (.int (2 : Int32)), (.ref hn.size), (.ref hn.size), (.ref h.size), (.ref h.size)] rfl ?_
        refine Wp.aget ok_cut ((A2.other wq92 hbd).other wq95 hbd) (i := 2) (v := (.int x2)) rfl rfl rfl rfl rfl ?_
        refine Wp.aput ok_cut Aq96 (List.mem_of_getElem? (i := 0) rfl) (i := 2) rfl (Nat.le_of_ble_eq_true rfl) rfl (fitc L2) rfl rfl rfl ?_
        intro hq97 wq98 Aq99
        have Kn : Keep hm hq97 [hn.size] := ((((Keep.refl hm [hn.size]).trans (wr_keep wq92) (fun x hx => Or.inl hx)).trans (wr_keep wq95) (fun x hx => Or.inl hx)).trans (wr_keep wq98) (fun x hx => Or.inl hx))
        have nn : h.size ∉ [hn.size] := ninS (Nat.ne_of_lt Xn.lt) nin0
        have ln : Lat [x0, x1, x2] := Lat.cons L0 (Lat.cons L1 (Lat.cons L2 (Lat.nil)))
        refine Wp.callI ok_cut (a := h.size) (argsL := [(.ref hn.size)]) (rest := [(.ref h.size)]) (ct_si1 G ln (Nat.le_of_ble_eq_true rfl) (by simp) hq97 ((Xn.ext Em).keep Kn) ((F1_hn.ext Em).keep Kn nn) ((F2_hn.ext Em).keep Kn nn) Aq99) G.2.1 (G.1 _ (List.mem_of_getElem? (i := 9) rfl)) (G.1 _ (List.mem_of_getElem? (i := 10) rfl)) (G.1 _ (List.mem_of_getElem? (i := 8) rfl)) (G.1 _ (List.mem_of_getElem? (i := 11) rfl)) rfl rfl rfl rfl (by decide) pd_si1 rfl rfl (Nat.le_of_ble_eq_true rfl) (Nat.le_of_ble_eq_true rfl) (Nat.le_of_ble_eq_true rfl) (Nat.le_of_ble_eq_true rfl) (allS (List.mem_of_getElem? (i := 1) rfl) all0) ?_
        rintro _ hs ⟨rfl, Ks, Ss⟩ -
        have Es : Ext h hs := ext_keep (ext_keep (ext_trans En Em) Kn (all1 En.1)) Ks (all1 (Nat.le_refl _))
        exact Wp.retA ok_cut (t := (.object "java/lang/String")) rfl rfl rfl rfl rfl ⟨_, rfl, Es, Ss⟩
    · replace hk2 : (Int32.ofNat k) = (2 : Int32) := hk2
      obtain rfl : k = 2 := (n_eq (by omega) (by decide)).mp hk2
      refine Wp.new ok_cut (G.1 _ (List.mem_of_getElem? (i := 6) rfl)) (G.1 _ (List.mem_of_getElem? (i := 7) rfl)) (G.1 _ (List.mem_of_getElem? (i := 8) rfl)) rfl (Nat.le_of_ble_eq_true rfl) (Nat.le_of_ble_eq_true rfl) ?_
      intro hn En Xn D_hn
      have F1_hn : Fld Z hn h.size "java/lang/String" "coder" "B" (.int 0) := D_hn (Or.inr (G.1 _ (List.mem_of_getElem? (i := 32) rfl))) (ty := .byte) (by decide)
      have F2_hn : Fld Z hn h.size "java/lang/String" "value" "[B" .null := D_hn (Or.inr (G.1 _ (List.mem_of_getElem? (i := 34) rfl))) (ty := .array .byte) (by decide)
      refine Wp.run ok_cut 2 32 #[.val (.ref b), .val (.int (Int32.ofNat 2))] [(.int (2 : Int32)), (.ref h.size), (.ref h.size)] rfl ?_
      refine Wp.newP ok_cut (len := 2) (cap := 2) (G.1 _ (List.mem_of_getElem? (i := 1) rfl)) rfl rfl rfl (Nat.le_of_ble_eq_true rfl) (Nat.le_of_ble_eq_true rfl) (Nat.le_of_ble_eq_true rfl) (Nat.le_of_ble_eq_true rfl) ?_
      intro hm Em Am
      refine Wp.run ok_cut 4 38 #[.val (.ref b), .val (.int (Int32.ofNat 2))] [(.int (0 : Int32)), (.ref b), (.int (0 : Int32)), (.ref hn.size), (.ref hn.size), (.ref h.size), (.ref h.size)] rfl ?_
      have hbd : b ≠ hn.size := fun q => absurd (A.ext En).lt (by rw [q]; exact Nat.lt_irrefl _)
      have A2 : Ar Z hm b .char ([x0, x1, x2, x3, x4, x5, x6, x7].map Value.int) := (A.ext En).ext Em
      refine Wp.aget ok_cut A2 (i := 0) (v := (.int x0)) rfl rfl rfl rfl rfl ?_
      refine Wp.aput ok_cut Am (List.mem_of_getElem? (i := 0) rfl) (i := 0) rfl (Nat.le_of_ble_eq_true rfl) rfl (fitc L0) rfl rfl rfl ?_
      intro hq100 wq101 Aq102
      refine Wp.run ok_cut 4 44 #[.val (.ref b), .val (.int (Int32.ofNat 2))] [(.int (1 : Int32)), (.ref b), (.int (1 : Int32)), (.ref hn.size), (.ref hn.size), (.ref h.size), (.ref h.size)] rfl ?_
      refine Wp.aget ok_cut (A2.other wq101 hbd) (i := 1) (v := (.int x1)) rfl rfl rfl rfl rfl ?_
      refine Wp.aput ok_cut Aq102 (List.mem_of_getElem? (i := 0) rfl) (i := 1) rfl (Nat.le_of_ble_eq_true rfl) rfl (fitc L1) rfl rfl rfl ?_
      intro hq103 wq104 Aq105
      have Kn : Keep hm hq103 [hn.size] := (((Keep.refl hm [hn.size]).trans (wr_keep wq101) (fun x hx => Or.inl hx)).trans (wr_keep wq104) (fun x hx => Or.inl hx))
      have nn : h.size ∉ [hn.size] := ninS (Nat.ne_of_lt Xn.lt) nin0
      have ln : Lat [x0, x1] := Lat.cons L0 (Lat.cons L1 (Lat.nil))
      refine Wp.callI ok_cut (a := h.size) (argsL := [(.ref hn.size)]) (rest := [(.ref h.size)]) (ct_si1 G ln (Nat.le_of_ble_eq_true rfl) (by simp) hq103 ((Xn.ext Em).keep Kn) ((F1_hn.ext Em).keep Kn nn) ((F2_hn.ext Em).keep Kn nn) Aq105) G.2.1 (G.1 _ (List.mem_of_getElem? (i := 9) rfl)) (G.1 _ (List.mem_of_getElem? (i := 10) rfl)) (G.1 _ (List.mem_of_getElem? (i := 8) rfl)) (G.1 _ (List.mem_of_getElem? (i := 11) rfl)) rfl rfl rfl rfl (by decide) pd_si1 rfl rfl (Nat.le_of_ble_eq_true rfl) (Nat.le_of_ble_eq_true rfl) (Nat.le_of_ble_eq_true rfl) (Nat.le_of_ble_eq_true rfl) (allS (List.mem_of_getElem? (i := 1) rfl) all0) ?_
      rintro _ hs ⟨rfl, Ks, Ss⟩ -
      have Es : Ext h hs := ext_keep (ext_keep (ext_trans En Em) Kn (all1 En.1)) Ks (all1 (Nat.le_refl _))
      exact Wp.retA ok_cut (t := (.object "java/lang/String")) rfl rfl rfl rfl rfl ⟨_, rfl, Es, Ss⟩
  · replace hk1 : (Int32.ofNat k) = (1 : Int32) := hk1
    obtain rfl : k = 1 := (n_eq (by omega) (by decide)).mp hk1
    refine Wp.new ok_cut (G.1 _ (List.mem_of_getElem? (i := 6) rfl)) (G.1 _ (List.mem_of_getElem? (i := 7) rfl)) (G.1 _ (List.mem_of_getElem? (i := 8) rfl)) rfl (Nat.le_of_ble_eq_true rfl) (Nat.le_of_ble_eq_true rfl) ?_
    intro hn En Xn D_hn
    have F1_hn : Fld Z hn h.size "java/lang/String" "coder" "B" (.int 0) := D_hn (Or.inr (G.1 _ (List.mem_of_getElem? (i := 32) rfl))) (ty := .byte) (by decide)
    have F2_hn : Fld Z hn h.size "java/lang/String" "value" "[B" .null := D_hn (Or.inr (G.1 _ (List.mem_of_getElem? (i := 34) rfl))) (ty := .array .byte) (by decide)
    refine Wp.run ok_cut 2 10 #[.val (.ref b), .val (.int (Int32.ofNat 1))] [(.int (1 : Int32)), (.ref h.size), (.ref h.size)] rfl ?_
    refine Wp.newP ok_cut (len := 1) (cap := 1) (G.1 _ (List.mem_of_getElem? (i := 1) rfl)) rfl rfl rfl (Nat.le_of_ble_eq_true rfl) (Nat.le_of_ble_eq_true rfl) (Nat.le_of_ble_eq_true rfl) (Nat.le_of_ble_eq_true rfl) ?_
    intro hm Em Am
    refine Wp.run ok_cut 4 16 #[.val (.ref b), .val (.int (Int32.ofNat 1))] [(.int (0 : Int32)), (.ref b), (.int (0 : Int32)), (.ref hn.size), (.ref hn.size), (.ref h.size), (.ref h.size)] rfl ?_
    have hbd : b ≠ hn.size := fun q => absurd (A.ext En).lt (by rw [q]; exact Nat.lt_irrefl _)
    have A2 : Ar Z hm b .char ([x0, x1, x2, x3, x4, x5, x6, x7].map Value.int) := (A.ext En).ext Em
    refine Wp.aget ok_cut A2 (i := 0) (v := (.int x0)) rfl rfl rfl rfl rfl ?_
    refine Wp.aput ok_cut Am (List.mem_of_getElem? (i := 0) rfl) (i := 0) rfl (Nat.le_of_ble_eq_true rfl) rfl (fitc L0) rfl rfl rfl ?_
    intro hq106 wq107 Aq108
    have Kn : Keep hm hq106 [hn.size] := ((Keep.refl hm [hn.size]).trans (wr_keep wq107) (fun x hx => Or.inl hx))
    have nn : h.size ∉ [hn.size] := ninS (Nat.ne_of_lt Xn.lt) nin0
    have ln : Lat [x0] := Lat.cons L0 (Lat.nil)
    refine Wp.callI ok_cut (a := h.size) (argsL := [(.ref hn.size)]) (rest := [(.ref h.size)]) (ct_si1 G ln (Nat.le_of_ble_eq_true rfl) (by simp) hq106 ((Xn.ext Em).keep Kn) ((F1_hn.ext Em).keep Kn nn) ((F2_hn.ext Em).keep Kn nn) Aq108) G.2.1 (G.1 _ (List.mem_of_getElem? (i := 9) rfl)) (G.1 _ (List.mem_of_getElem? (i := 10) rfl)) (G.1 _ (List.mem_of_getElem? (i := 8) rfl)) (G.1 _ (List.mem_of_getElem? (i := 11) rfl)) rfl rfl rfl rfl (by decide) pd_si1 rfl rfl (Nat.le_of_ble_eq_true rfl) (Nat.le_of_ble_eq_true rfl) (Nat.le_of_ble_eq_true rfl) (Nat.le_of_ble_eq_true rfl) (allS (List.mem_of_getElem? (i := 1) rfl) all0) ?_
    rintro _ hs ⟨rfl, Ks, Ss⟩ -
    have Es : Ext h hs := ext_keep (ext_keep (ext_trans En Em) Kn (all1 En.1)) Ks (all1 (Nat.le_refl _))
    exact Wp.retA ok_cut (t := (.object "java/lang/String")) rfl rfl rfl rfl rfl ⟨_, rfl, Es, Ss⟩
end Jvm.Pilot.@@N@@
namespace Jvm.Pilot.@@N@@
open Jvm Jvm.ClassFile Sem Op Lib Jvm.Free Jvm.Stand Jvm.LawKit Jvm.RoadKit Bundle Jvm.Pilot.@@N@@.Jvm.D Jvm.Pilot.@@N@@.Kw
abbrev mt_nti : Mth := (⟨"com/example/mono_contract/monocontract/NumberText", "<init>", "(Ljava/lang/String;ZLjava/lang/String;Ljava/lang/String;Ljava/lang/String;)V"⟩, prog_8_method_1_code, 6, none)
def tb_nti : Tab := [(0, .aload_n 0, 1), (1, .invokespecial 1, 3), (4, .aload_n 0, 1), (5, .aload_n 1, 1), (6, .putfield 7, 3), (9, .aload_n 0, 1), (10, .iload_n 2, 1), (11, .putfield 13, 3), (14, .aload_n 0, 1), (15, .aload_n 3, 1), (16, .putfield 17, 3), (19, .aload_n 0, 1), (20, .aload 4, 2), (22, .putfield 20, 3), (25, .aload_n 0, 1), (26, .aload 5, 2), (28, .putfield 23, 3), (31, .return_, 1)]
theorem ok_nti : TabOk mt_nti.2.1 tb_nti := by
  intro x hx
  have q : tb_nti.all (fun x => decide (decode prog_8_method_1_code x.1 = .ok x.2)) = true := by decide +kernel
  exact of_decide_eq_true (List.all_eq_true.mp q x hx)
theorem pl_nti : plainFor mt_nti.1 = true := by first | decide +kernel | exact plainFor_of_name (by first | (simp [plainName, overriddenIn]; done) | decide +kernel)
theorem pd_nti : parseMethodDescriptor "(Ljava/lang/String;ZLjava/lang/String;Ljava/lang/String;Ljava/lang/String;)V" = some ⟨[(.object "java/lang/String"), .boolean, (.object "java/lang/String"), (.object "java/lang/String"), (.object "java/lang/String")], none⟩ := by decide +kernel

set_option maxRecDepth 65536 in
set_option maxHeartbeats 4000000 in
theorem ct_nti {l : Launch} {Z : State} {a0 : Array Value} (G : Gd Z a0) {a : Addr} {s1 s2 s3 s4 : Addr} {ng : Int32} (hg : fits .boolean (.int ng) = true) (h : Heap) (X0 : Exa Z h a "com/example/mono_contract/monocontract/NumberText") (F0 : Fld Z h a "com/example/mono_contract/monocontract/NumberText" "text" "Ljava/lang/String;" .null) (F1 : Fld Z h a "com/example/mono_contract/monocontract/NumberText" "negative" "Z" (.int 0)) (F2 : Fld Z h a "com/example/mono_contract/monocontract/NumberText" "integer" "Ljava/lang/String;" .null) (F3 : Fld Z h a "com/example/mono_contract/monocontract/NumberText" "fraction" "Ljava/lang/String;" .null) (F4 : Fld Z h a "com/example/mono_contract/monocontract/NumberText" "exponent" "Ljava/lang/String;" .null) :
    Ct l Z EL1 mt_nti ({ frames := 2, cells := 0, slots := 0, locals := 24 } : Room) #[(.ref a), (.ref s1), (.int ng), (.ref s2), (.ref s3), (.ref s4)] h [a] (fun v h' => v = none ∧ Keep h h' [a] ∧ Exa Z h' a "com/example/mono_contract/monocontract/NumberText" ∧ Fld Z h' a "com/example/mono_contract/monocontract/NumberText" "text" "Ljava/lang/String;" (.ref s1) ∧ Fld Z h' a "com/example/mono_contract/monocontract/NumberText" "negative" "Z" (.int ng) ∧ Fld Z h' a "com/example/mono_contract/monocontract/NumberText" "integer" "Ljava/lang/String;" (.ref s2) ∧ Fld Z h' a "com/example/mono_contract/monocontract/NumberText" "fraction" "Ljava/lang/String;" (.ref s3) ∧ Fld Z h' a "com/example/mono_contract/monocontract/NumberText" "exponent" "Ljava/lang/String;" (.ref s4)) := by
  refine Ct.of_wp pl_nti G.2.1 (Ls := #[.val (.ref a), .val (.ref s1), .val (.int ng), .val (.ref s2), .val (.ref s3), .val (.ref s4)]) rfl ?_
  refine Wp.run ok_nti 1 1 #[.val (.ref a), .val (.ref s1), .val (.int ng), .val (.ref s2), .val (.ref s3), .val (.ref s4)] [(.ref a)] rfl ?_
  refine Wp.callI ok_nti (a := a) (argsL := []) (rest := []) (ct_rec G h) G.2.1 (G.1 _ (List.mem_of_getElem? (i := 120) rfl)) (G.1 _ (List.mem_of_getElem? (i := 121) rfl)) (G.1 _ (List.mem_of_getElem? (i := 123) rfl)) (G.1 _ (List.mem_of_getElem? (i := 124) rfl)) rfl rfl rfl rfl (by decide) pd_rec rfl rfl (Nat.le_of_ble_eq_true rfl) (Nat.le_of_ble_eq_true rfl) (Nat.le_of_ble_eq_true rfl) (Nat.le_of_ble_eq_true rfl) all0 ?_
  rintro _ _ ⟨rfl, rfl⟩ -
  refine Wp.run ok_nti 2 6 #[.val (.ref a), .val (.ref s1), .val (.int ng), .val (.ref s2), .val (.ref s3), .val (.ref s4)] [(.ref s1), (.ref a)] rfl ?_
  refine Wp.putF ok_nti (ty := (.object "java/lang/String")) F0 X0 (List.mem_of_getElem? (i := 0) rfl) (G.1 _ (List.mem_of_getElem? (i := 126) rfl)) Via.refl (Or.inr ⟨(G.1 _ (List.mem_of_getElem? (i := 127) rfl)), rfl, rfl⟩) (G.1 _ (List.mem_of_getElem? (i := 116) rfl)) (by decide) rfl rfl rfl ?_
  intro g1 w1
  refine Wp.run ok_nti 2 11 #[.val (.ref a), .val (.ref s1), .val (.int ng), .val (.ref s2), .val (.ref s3), .val (.ref s4)] [(.int ng), (.ref a)] rfl ?_
  refine Wp.putF ok_nti (ty := .boolean) (F1.other w1 (Or.inr (slot_ne (Or.inr (G.1 _ (List.mem_of_getElem? (i := 129) rfl))) (Or.inr (G.1 _ (List.mem_of_getElem? (i := 127) rfl))) (by decide) (t := .boolean) (t' := (.object "java/lang/String")) (by decide) (by decide)))) (X0.wr w1) (List.mem_of_getElem? (i := 0) rfl) (G.1 _ (List.mem_of_getElem? (i := 128) rfl)) Via.refl (Or.inr ⟨(G.1 _ (List.mem_of_getElem? (i := 129) rfl)), rfl, rfl⟩) (G.1 _ (List.mem_of_getElem? (i := 116) rfl)) (by decide) hg rfl rfl ?_
  intro g2 w2
  refine Wp.run ok_nti 2 16 #[.val (.ref a), .val (.ref s1), .val (.int ng), .val (.ref s2), .val (.ref s3), .val (.ref s4)] [(.ref s2), (.ref a)] rfl ?_
  refine Wp.putF ok_nti (ty := (.object "java/lang/String")) ((F2.other w1 (Or.inr (slot_ne (Or.inr (G.1 _ (List.mem_of_getElem? (i := 131) rfl))) (Or.inr (G.1 _ (List.mem_of_getElem? (i := 127) rfl))) (by decide) (t := (.object "java/lang/String")) (t' := (.object "java/lang/String")) (by decide) (by decide)))).other w2 (Or.inr (slot_ne (Or.inr (G.1 _ (List.mem_of_getElem? (i := 131) rfl))) (Or.inr (G.1 _ (List.mem_of_getElem? (i := 129) rfl))) (by decide) (t := (.object "java/lang/String")) (t' := .boolean) (by decide) (by decide)))) ((X0.wr w1).wr w2) (List.mem_of_getElem? (i := 0) rfl) (G.1 _ (List.mem_of_getElem? (i := 130) rfl)) Via.refl (Or.inr ⟨(G.1 _ (List.mem_of_getElem? (i := 131) rfl)), rfl, rfl⟩) (G.1 _ (List.mem_of_getElem? (i := 116) rfl)) (by decide) rfl rfl rfl ?_
  intro g3 w3
  refine Wp.run ok_nti 2 22 #[.val (.ref a), .val (.ref s1), .val (.int ng), .val (.ref s2), .val (.ref s3), .val (.ref s4)] [(.ref s3), (.ref a)] rfl ?_
  refine Wp.putF ok_nti (ty := (.object "java/lang/String")) (((F3.other w1 (Or.inr (slot_ne (Or.inr (G.1 _ (List.mem_of_getElem? (i := 133) rfl))) (Or.inr (G.1 _ (List.mem_of_getElem? (i := 127) rfl))) (by decide) (t := (.object "java/lang/String")) (t' := (.object "java/lang/String")) (by decide) (by decide)))).other w2 (Or.inr (slot_ne (Or.inr (G.1 _ (List.mem_of_getElem? (i := 133) rfl))) (Or.inr (G.1 _ (List.mem_of_getElem? (i := 129) rfl))) (by decide) (t := (.object "java/lang/String")) (t' := .boolean) (by decide) (by decide)))).other w3 (Or.inr (slot_ne (Or.inr (G.1 _ (List.mem_of_getElem? (i := 133) rfl))) (Or.inr (G.1 _ (List.mem_of_getElem? (i := 131) rfl))) (by decide) (t := (.object "java/lang/String")) (t' := (.object "java/lang/String")) (by decide) (by decide)))) (((X0.wr w1).wr w2).wr w3) (List.mem_of_getElem? (i := 0) rfl) (G.1 _ (List.mem_of_getElem? (i := 132) rfl)) Via.refl (Or.inr ⟨(G.1 _ (List.mem_of_getElem? (i := 133) rfl)), rfl, rfl⟩) (G.1 _ (List.mem_of_getElem? (i := 116) rfl)) (by decide) rfl rfl rfl ?_
  intro g4 w4
  refine Wp.run ok_nti 2 28 #[.val (.ref a), .val (.ref s1), .val (.int ng), .val (.ref s2), .val (.ref s3), .val (.ref s4)] [(.ref s4), (.ref a)] rfl ?_
  refine Wp.putF ok_nti (ty := (.object "java/lang/String")) ((((F4.other w1 (Or.inr (slot_ne (Or.inr (G.1 _ (List.mem_of_getElem? (i := 135) rfl))) (Or.inr (G.1 _ (List.mem_of_getElem? (i := 127) rfl))) (by decide) (t := (.object "java/lang/String")) (t' := (.object "java/lang/String")) (by decide) (by decide)))).other w2 (Or.inr (slot_ne (Or.inr (G.1 _ (List.mem_of_getElem? (i := 135) rfl))) (Or.inr (G.1 _ (List.mem_of_getElem? (i := 129) rfl))) (by decide) (t := (.object "java/lang/String")) (t' := .boolean) (by decide) (by decide)))).other w3 (Or.inr (slot_ne (Or.inr (G.1 _ (List.mem_of_getElem? (i := 135) rfl))) (Or.inr (G.1 _ (List.mem_of_getElem? (i := 131) rfl))) (by decide) (t := (.object "java/lang/String")) (t' := (.object "java/lang/String")) (by decide) (by decide)))).other w4 (Or.inr (slot_ne (Or.inr (G.1 _ (List.mem_of_getElem? (i := 135) rfl))) (Or.inr (G.1 _ (List.mem_of_getElem? (i := 133) rfl))) (by decide) (t := (.object "java/lang/String")) (t' := (.object "java/lang/String")) (by decide) (by decide)))) ((((X0.wr w1).wr w2).wr w3).wr w4) (List.mem_of_getElem? (i := 0) rfl) (G.1 _ (List.mem_of_getElem? (i := 134) rfl)) Via.refl (Or.inr ⟨(G.1 _ (List.mem_of_getElem? (i := 135) rfl)), rfl, rfl⟩) (G.1 _ (List.mem_of_getElem? (i := 116) rfl)) (by decide) rfl rfl rfl ?_
  intro g5 w5
  exact Wp.ret0 ok_nti rfl rfl rfl ⟨rfl, (((((wr_keep w1).trans (wr_keep w2) (fun x hx => Or.inl hx)).trans (wr_keep w3) (fun x hx => Or.inl hx)).trans (wr_keep w4) (fun x hx => Or.inl hx)).trans (wr_keep w5) (fun x hx => Or.inl hx)), (((((X0.wr w1).wr w2).wr w3).wr w4).wr w5), (((((F0.same w1).other w2 (Or.inr (slot_ne (Or.inr (G.1 _ (List.mem_of_getElem? (i := 127) rfl))) (Or.inr (G.1 _ (List.mem_of_getElem? (i := 129) rfl))) (by decide) (t := (.object "java/lang/String")) (t' := .boolean) (by decide) (by decide)))).other w3 (Or.inr (slot_ne (Or.inr (G.1 _ (List.mem_of_getElem? (i := 127) rfl))) (Or.inr (G.1 _ (List.mem_of_getElem? (i := 131) rfl))) (by decide) (t := (.object "java/lang/String")) (t' := (.object "java/lang/String")) (by decide) (by decide)))).other w4 (Or.inr (slot_ne (Or.inr (G.1 _ (List.mem_of_getElem? (i := 127) rfl))) (Or.inr (G.1 _ (List.mem_of_getElem? (i := 133) rfl))) (by decide) (t := (.object "java/lang/String")) (t' := (.object "java/lang/String")) (by decide) (by decide)))).other w5 (Or.inr (slot_ne (Or.inr (G.1 _ (List.mem_of_getElem? (i := 127) rfl))) (Or.inr (G.1 _ (List.mem_of_getElem? (i := 135) rfl))) (by decide) (t := (.object "java/lang/String")) (t' := (.object "java/lang/String")) (by decide) (by decide)))), (((((F1.other w1 (Or.inr (slot_ne (Or.inr (G.1 _ (List.mem_of_getElem? (i := 129) rfl))) (Or.inr (G.1 _ (List.mem_of_getElem? (i := 127) rfl))) (by decide) (t := .boolean) (t' := (.object "java/lang/String")) (by decide) (by decide)))).same w2).other w3 (Or.inr (slot_ne (Or.inr (G.1 _ (List.mem_of_getElem? (i := 129) rfl))) (Or.inr (G.1 _ (List.mem_of_getElem? (i := 131) rfl))) (by decide) (t := .boolean) (t' := (.object "java/lang/String")) (by decide) (by decide)))).other w4 (Or.inr (slot_ne (Or.inr (G.1 _ (List.mem_of_getElem? (i := 129) rfl))) (Or.inr (G.1 _ (List.mem_of_getElem? (i := 133) rfl))) (by decide) (t := .boolean) (t' := (.object "java/lang/String")) (by decide) (by decide)))).other w5 (Or.inr (slot_ne (Or.inr (G.1 _ (List.mem_of_getElem? (i := 129) rfl))) (Or.inr (G.1 _ (List.mem_of_getElem? (i := 135) rfl))) (by decide) (t := .boolean) (t' := (.object "java/lang/String")) (by decide) (by decide)))), (((((F2.other w1 (Or.inr (slot_ne (Or.inr (G.1 _ (List.mem_of_getElem? (i := 131) rfl))) (Or.inr (G.1 _ (List.mem_of_getElem? (i := 127) rfl))) (by decide) (t := (.object "java/lang/String")) (t' := (.object "java/lang/String")) (by decide) (by decide)))).other w2 (Or.inr (slot_ne (Or.inr (G.1 _ (List.mem_of_getElem? (i := 131) rfl))) (Or.inr (G.1 _ (List.mem_of_getElem? (i := 129) rfl))) (by decide) (t := (.object "java/lang/String")) (t' := .boolean) (by decide) (by decide)))).same w3).other w4 (Or.inr (slot_ne (Or.inr (G.1 _ (List.mem_of_getElem? (i := 131) rfl))) (Or.inr (G.1 _ (List.mem_of_getElem? (i := 133) rfl))) (by decide) (t := (.object "java/lang/String")) (t' := (.object "java/lang/String")) (by decide) (by decide)))).other w5 (Or.inr (slot_ne (Or.inr (G.1 _ (List.mem_of_getElem? (i := 131) rfl))) (Or.inr (G.1 _ (List.mem_of_getElem? (i := 135) rfl))) (by decide) (t := (.object "java/lang/String")) (t' := (.object "java/lang/String")) (by decide) (by decide)))), (((((F3.other w1 (Or.inr (slot_ne (Or.inr (G.1 _ (List.mem_of_getElem? (i := 133) rfl))) (Or.inr (G.1 _ (List.mem_of_getElem? (i := 127) rfl))) (by decide) (t := (.object "java/lang/String")) (t' := (.object "java/lang/String")) (by decide) (by decide)))).other w2 (Or.inr (slot_ne (Or.inr (G.1 _ (List.mem_of_getElem? (i := 133) rfl))) (Or.inr (G.1 _ (List.mem_of_getElem? (i := 129) rfl))) (by decide) (t := (.object "java/lang/String")) (t' := .boolean) (by decide) (by decide)))).other w3 (Or.inr (slot_ne (Or.inr (G.1 _ (List.mem_of_getElem? (i := 133) rfl))) (Or.inr (G.1 _ (List.mem_of_getElem? (i := 131) rfl))) (by decide) (t := (.object "java/lang/String")) (t' := (.object "java/lang/String")) (by decide) (by decide)))).same w4).other w5 (Or.inr (slot_ne (Or.inr (G.1 _ (List.mem_of_getElem? (i := 133) rfl))) (Or.inr (G.1 _ (List.mem_of_getElem? (i := 135) rfl))) (by decide) (t := (.object "java/lang/String")) (t' := (.object "java/lang/String")) (by decide) (by decide)))), (((((F4.other w1 (Or.inr (slot_ne (Or.inr (G.1 _ (List.mem_of_getElem? (i := 135) rfl))) (Or.inr (G.1 _ (List.mem_of_getElem? (i := 127) rfl))) (by decide) (t := (.object "java/lang/String")) (t' := (.object "java/lang/String")) (by decide) (by decide)))).other w2 (Or.inr (slot_ne (Or.inr (G.1 _ (List.mem_of_getElem? (i := 135) rfl))) (Or.inr (G.1 _ (List.mem_of_getElem? (i := 129) rfl))) (by decide) (t := (.object "java/lang/String")) (t' := .boolean) (by decide) (by decide)))).other w3 (Or.inr (slot_ne (Or.inr (G.1 _ (List.mem_of_getElem? (i := 135) rfl))) (Or.inr (G.1 _ (List.mem_of_getElem? (i := 131) rfl))) (by decide) (t := (.object "java/lang/String")) (t' := (.object "java/lang/String")) (by decide) (by decide)))).other w4 (Or.inr (slot_ne (Or.inr (G.1 _ (List.mem_of_getElem? (i := 135) rfl))) (Or.inr (G.1 _ (List.mem_of_getElem? (i := 133) rfl))) (by decide) (t := (.object "java/lang/String")) (t' := (.object "java/lang/String")) (by decide) (by decide)))).same w5)⟩

abbrev mt_nof : Mth := (⟨"com/example/mono_contract/monocontract/NumberText", "of", "(Ljava/lang/String;)Lcom/example/mono_contract/monocontract/NumberText;"⟩, prog_8_method_2_code, 8, some (.object "com/example/mono_contract/monocontract/NumberText"))
def tb_nof : Tab := [(0, .aload_n 0, 1), (1, .bipush 101, 2), (3, .invokevirtual 26, 3), (6, .aload_n 0, 1), (7, .bipush 69, 2), (9, .invokevirtual 26, 3), (12, .invokestatic 32, 3), (15, .istore_n 1, 1), (16, .iload_n 1, 1), (17, .ifCond .ge 10, 3), (20, .aload_n 0, 1), (21, .invokevirtual 38, 3), (24, .goto 4, 3), (27, .iload_n 1, 1), (28, .istore_n 2, 1), (29, .aload_n 0, 1), (30, .bipush 46, 2), (32, .invokevirtual 26, 3), (35, .istore_n 3, 1), (36, .aload_n 0, 1), (37, .ldc 42, 2), (39, .invokevirtual 44, 3), (42, .ifCond .eq 7, 3), (45, .iconst 1, 1), (46, .goto 4, 3), (49, .iconst 0, 1), (50, .istore 4, 2), (52, .aload_n 0, 1), (53, .iload 4, 2), (55, .iload_n 3, 1), (56, .ifCond .ge 7, 3), (59, .iload_n 2, 1), (60, .goto 4, 3), (63, .iload_n 3, 1), (64, .invokevirtual 48, 3), (67, .astore 5, 2), (69, .iload_n 3, 1), (70, .ifCond .ge 8, 3), (73, .ldc 52, 2), (75, .goto 11, 3), (78, .aload_n 0, 1), (79, .iload_n 3, 1), (80, .iconst 1, 1), (81, .iadd, 1), (82, .iload_n 2, 1), (83, .invokevirtual 48, 3), (86, .astore 6, 2), (88, .iload_n 1, 1), (89, .ifCond .ge 8, 3), (92, .ldc 54, 2), (94, .goto 10, 3), (97, .aload_n 0, 1), (98, .iload_n 1, 1), (99, .iconst 1, 1), (100, .iadd, 1), (101, .invokevirtual 56, 3), (104, .astore 7, 2), (106, .new 8, 3), (109, .dup, 1), (110, .aload_n 0, 1), (111, .iload 4, 2), (113, .ifCond .le 7, 3), (116, .iconst 1, 1), (117, .goto 4, 3), (120, .iconst 0, 1), (121, .aload 5, 2), (123, .aload 6, 2), (125, .aload 7, 2), (127, .invokespecial 59, 3), (130, .areturn, 1)]
theorem ok_nof : TabOk mt_nof.2.1 tb_nof := by
  intro x hx
  have q : tb_nof.all (fun x => decide (decode prog_8_method_2_code x.1 = .ok x.2)) = true := by decide +kernel
  exact of_decide_eq_true (List.all_eq_true.mp q x hx)
theorem pl_nof : plainFor mt_nof.1 = true := by first | decide +kernel | exact plainFor_of_name (by first | (simp [plainName, overriddenIn]; done) | decide +kernel)
theorem pd_nof : parseMethodDescriptor "(Ljava/lang/String;)Lcom/example/mono_contract/monocontract/NumberText;" = some ⟨[(.object "java/lang/String")], some (.object "com/example/mono_contract/monocontract/NumberText")⟩ := by decide +kernel

set_option maxRecDepth 65536 in
set_option maxHeartbeats 4000000 in
theorem ct_nof {l : Launch} {Z : State} {a0 : Array Value} (G : Gd Z a0) {a : Addr} {cs : List Int32} {x : Int32} {en st ng : Nat} (hcap : cs.length ≤ 16) (hx : cs[0]? = some x) (he : (fx cs 101 0 = none ∧ fx cs 69 0 = none ∧ en = cs.length) ∨ (((fx cs 101 0 = some en ∧ fx cs 69 0 = none) ∨ (fx cs 101 0 = none ∧ fx cs 69 0 = some en)) ∧ en + 1 < cs.length)) (hd : (fx cs 46 0 = none ∧ st = en) ∨ (fx cs 46 0 = some st ∧ st + 1 < en)) (hg : (x = 45 ∧ ng = 1) ∨ (¬ x = 45 ∧ ng = 0)) (hgs : ng < st) (h : Heap) (S1 : Str Z h a cs) :
    Ct l Z EL1 mt_nof ({ frames := 6, cells := 9, slots := 73, locals := 93 } : Room) #[(.ref a)] h [] (fun v h' => ∃ o s2, v = some (.ref o) ∧ Ext h h' ∧ Exa Z h' o "com/example/mono_contract/monocontract/NumberText" ∧ Fld Z h' o "com/example/mono_contract/monocontract/NumberText" "text" "Ljava/lang/String;" (.ref a) ∧ Fld Z h' o "com/example/mono_contract/monocontract/NumberText" "negative" "Z" (.int (Int32.ofNat ng)) ∧ Fld Z h' o "com/example/mono_contract/monocontract/NumberText" "integer" "Ljava/lang/String;" (.ref s2) ∧ Str Z h' a cs ∧ Str Z h' s2 ((cs.drop ng).take (st - ng))) := by
  refine Ct.of_wp pl_nof G.2.1 (Ls := #[.val (.ref a), .unset, .unset, .unset, .unset, .unset, .unset, .unset]) rfl ?_
  have h31 := S1.len
  have hen : en ≤ cs.length := by omega
  have hst : st ≤ en := by omega
  have r106 : ∀ (h3 : Heap) (xi dv : Int32) (s2 s3 s4 : Addr), Ext h h3 → Str Z h3 s2 ((cs.drop ng).take (st - ng)) → Wp l Z EL1 mt_nof ({ frames := 6, cells := 9, slots := 73, locals := 93 } : Room) h3 [] 8 68 106 #[.val (.ref a), .val (.int xi), .val (.int (Int32.ofNat en)), .val (.int dv), .val (.int (Int32.ofNat ng)), .val (.ref s2), .val (.ref s3), .val (.ref s4)] [] (fun v h' => ∃ o s2, v = some (.ref o) ∧ Ext h h' ∧ Exa Z h' o "com/example/mono_contract/monocontract/NumberText" ∧ Fld Z h' o "com/example/mono_contract/monocontract/NumberText" "text" "Ljava/lang/String;" (.ref a) ∧ Fld Z h' o "com/example/mono_contract/monocontract/NumberText" "negative" "Z" (.int (Int32.ofNat ng)) ∧ Fld Z h' o "com/example/mono_contract/monocontract/NumberText" "integer" "Ljava/lang/String;" (.ref s2) ∧ Str Z h' a cs ∧ Str Z h' s2 ((cs.drop ng).take (st - ng))) := by
    intro h3 xi dv s2 s3 s4 E3 T3
    refine Wp.new ok_nof (G.1 _ (List.mem_of_getElem? (i := 115) rfl)) (G.1 _ (List.mem_of_getElem? (i := 116) rfl)) (G.1 _ (List.mem_of_getElem? (i := 37) rfl)) rfl (Nat.le_of_ble_eq_true rfl) (Nat.le_of_ble_eq_true rfl) ?_
    intro h4 E4 X4 D4
    refine Wp.run ok_nof 3 113 #[.val (.ref a), .val (.int xi), .val (.int (Int32.ofNat en)), .val (.int dv), .val (.int (Int32.ofNat ng)), .val (.ref s2), .val (.ref s3), .val (.ref s4)] [(.int (Int32.ofNat ng)), (.ref a), (.ref h3.size), (.ref h3.size)] rfl ?_
    rcases hg with ⟨hxx, rfl⟩ | ⟨hxx, rfl⟩
    · refine Wp.ifF ok_nof rfl rfl (show (0 : Int32) < (Int32.ofNat 1) from by decide) ?_
      refine Wp.run ok_nof 5 127 #[.val (.ref a), .val (.int xi), .val (.int (Int32.ofNat en)), .val (.int dv), .val (.int (Int32.ofNat 1)), .val (.ref s2), .val (.ref s3), .val (.ref s4)] [(.ref s4), (.ref s3), (.ref s2), (.int (1 : Int32)), (.ref a), (.ref h3.size), (.ref h3.size)] rfl ?_
      refine Wp.callI ok_nof (a := h3.size) (argsL := [(.ref a), (.int (1 : Int32)), (.ref s2), (.ref s3), (.ref s4)]) (rest := [(.ref h3.size)]) (ct_nti G (s1 := a) (s2 := s2) (s3 := s3) (s4 := s4) (ng := 1) rfl h4 X4 (D4 (Or.inr (G.1 _ (List.mem_of_getElem? (i := 127) rfl))) (ty := (.object "java/lang/String")) (by decide)) (D4 (Or.inr (G.1 _ (List.mem_of_getElem? (i := 129) rfl))) (ty := .boolean) (by decide)) (D4 (Or.inr (G.1 _ (List.mem_of_getElem? (i := 131) rfl))) (ty := (.object "java/lang/String")) (by decide)) (D4 (Or.inr (G.1 _ (List.mem_of_getElem? (i := 133) rfl))) (ty := (.object "java/lang/String")) (by decide)) (D4 (Or.inr (G.1 _ (List.mem_of_getElem? (i := 135) rfl))) (ty := (.object "java/lang/String")) (by decide))) G.2.1 (G.1 _ (List.mem_of_getElem? (i := 117) rfl)) (G.1 _ (List.mem_of_getElem? (i := 118) rfl)) (G.1 _ (List.mem_of_getElem? (i := 37) rfl)) (G.1 _ (List.mem_of_getElem? (i := 119) rfl)) rfl rfl rfl rfl (by decide) pd_nti rfl rfl (Nat.le_of_ble_eq_true rfl) (Nat.le_of_ble_eq_true rfl) (Nat.le_of_ble_eq_true rfl) (Nat.le_of_ble_eq_true rfl) (allS (List.mem_of_getElem? (i := 0) rfl) all0) ?_
      rintro _ h5 ⟨rfl, K5, X5, G1, G2, G3, -⟩ -
      have E5 : Ext h3 h5 := ext_keep E4 K5 (all1 (Nat.le_refl _))
      exact Wp.retA ok_nof (t := (.object "com/example/mono_contract/monocontract/NumberText")) rfl rfl rfl rfl rfl ⟨_, s2, rfl, ext_trans E3 E5, X5, G1, G2, G3, S1.ext (ext_trans E3 E5), T3.ext E5⟩
    · refine Wp.ifT ok_nof 120 rfl rfl (show ¬ (0 : Int32) < (Int32.ofNat 0) from by decide) (by decide) (by decide) ?_
      refine Wp.run ok_nof 4 127 #[.val (.ref a), .val (.int xi), .val (.int (Int32.ofNat en)), .val (.int dv), .val (.int (Int32.ofNat 0)), .val (.ref s2), .val (.ref s3), .val (.ref s4)] [(.ref s4), (.ref s3), (.ref s2), (.int (0 : Int32)), (.ref a), (.ref h3.size), (.ref h3.size)] rfl ?_
      refine Wp.callI ok_nof (a := h3.size) (argsL := [(.ref a), (.int (0 : Int32)), (.ref s2), (.ref s3), (.ref s4)]) (rest := [(.ref h3.size)]) (ct_nti G (s1 := a) (s2 := s2) (s3 := s3) (s4 := s4) (ng := 0) rfl h4 X4 (D4 (Or.inr (G.1 _ (List.mem_of_getElem? (i := 127) rfl))) (ty := (.object "java/lang/String")) (by decide)) (D4 (Or.inr (G.1 _ (List.mem_of_getElem? (i := 129) rfl))) (ty := .boolean) (by decide)) (D4 (Or.inr (G.1 _ (List.mem_of_getElem? (i := 131) rfl))) (ty := (.object "java/lang/String")) (by decide)) (D4 (Or.inr (G.1 _ (List.mem_of_getElem? (i := 133) rfl))) (ty := (.object "java/lang/String")) (by decide)) (D4 (Or.inr (G.1 _ (List.mem_of_getElem? (i := 135) rfl))) (ty := (.object "java/lang/String")) (by decide))) G.2.1 (G.1 _ (List.mem_of_getElem? (i := 117) rfl)) (G.1 _ (List.mem_of_getElem? (i := 118) rfl)) (G.1 _ (List.mem_of_getElem? (i := 37) rfl)) (G.1 _ (List.mem_of_getElem? (i := 119) rfl)) rfl rfl rfl rfl (by decide) pd_nti rfl rfl (Nat.le_of_ble_eq_true rfl) (Nat.le_of_ble_eq_true rfl) (Nat.le_of_ble_eq_true rfl) (Nat.le_of_ble_eq_true rfl) (allS (List.mem_of_getElem? (i := 0) rfl) all0) ?_
      rintro _ h5 ⟨rfl, K5, X5, G1, G2, G3, -⟩ -
      have E5 : Ext h3 h5 := ext_keep E4 K5 (all1 (Nat.le_refl _))
      exact Wp.retA ok_nof (t := (.object "com/example/mono_contract/monocontract/NumberText")) rfl rfl rfl rfl rfl ⟨_, s2, rfl, ext_trans E3 E5, X5, G1, G2, G3, S1.ext (ext_trans E3 E5), T3.ext E5⟩
  have r88 : ∀ (h2 : Heap) (xi dv : Int32) (s2 s3 : Addr), (xi = -1 ∨ (xi = Int32.ofNat en ∧ en + 1 < cs.length)) → Ext h h2 → Str Z h2 s2 ((cs.drop ng).take (st - ng)) → Wp l Z EL1 mt_nof ({ frames := 6, cells := 9, slots := 73, locals := 93 } : Room) h2 [] 6 48 88 #[.val (.ref a), .val (.int xi), .val (.int (Int32.ofNat en)), .val (.int dv), .val (.int (Int32.ofNat ng)), .val (.ref s2), .val (.ref s3), .unset] [] (fun v h' => ∃ o s2, v = some (.ref o) ∧ Ext h h' ∧ Exa Z h' o "com/example/mono_contract/monocontract/NumberText" ∧ Fld Z h' o "com/example/mono_contract/monocontract/NumberText" "text" "Ljava/lang/String;" (.ref a) ∧ Fld Z h' o "com/example/mono_contract/monocontract/NumberText" "negative" "Z" (.int (Int32.ofNat ng)) ∧ Fld Z h' o "com/example/mono_contract/monocontract/NumberText" "integer" "Ljava/lang/String;" (.ref s2) ∧ Str Z h' a cs ∧ Str Z h' s2 ((cs.drop ng).take (st - ng))) := by
    intro h2 xi dv s2 s3 hxi E2 T2
    refine Wp.run ok_nof 1 89 #[.val (.ref a), .val (.int xi), .val (.int (Int32.ofNat en)), .val (.int dv), .val (.int (Int32.ofNat ng)), .val (.ref s2), .val (.ref s3), .unset] [(.int xi)] rfl ?_
    rcases hxi with rfl | ⟨rfl, hxl⟩
    · refine Wp.ifF ok_nof rfl rfl (show (-1) < (0 : Int32) from by decide) ?_
      refine Wp.ldcStr ok_nof (nn := 4) [48] (G.1 _ (List.mem_of_getElem? (i := 114) rfl)) (wS G) G.2.1 (by decide) (by decide +kernel) (latD (by decide)) (by decide) rfl (by decide) (by decide) (Nat.le_of_ble_eq_true rfl) (Nat.le_of_ble_eq_true rfl) ?_
      intro s4 h3 E3 S3 N3
      refine Wp.run ok_nof 2 106 #[.val (.ref a), .val (.int (-1)), .val (.int (Int32.ofNat en)), .val (.int dv), .val (.int (Int32.ofNat ng)), .val (.ref s2), .val (.ref s3), .val (.ref s4)] [] rfl ?_
      exact Wp.up (Nat.le_of_ble_eq_true rfl) (Nat.le_of_ble_eq_true rfl) (Nat.le_of_ble_eq_true rfl) (Nat.le_of_ble_eq_true rfl) all0 (r106 h3 _ dv s2 s3 s4 (ext_trans E2 E3) (T2.ext E3))
    · refine Wp.ifT ok_nof 97 rfl rfl (show ¬ (Int32.ofNat en) < (0 : Int32) from Int32.ofNat_not_neg (by omega)) (by decide) (by decide) ?_
      refine Wp.run ok_nof 4 101 #[.val (.ref a), .val (.int (Int32.ofNat en)), .val (.int (Int32.ofNat en)), .val (.int dv), .val (.int (Int32.ofNat ng)), .val (.ref s2), .val (.ref s3), .unset] [(.int ((Int32.ofNat en) + (1 : Int32))), (.ref a)] rfl ?_
      refine Wp.at #[.val (.ref a), .val (.int (Int32.ofNat en)), .val (.int (Int32.ofNat en)), .val (.int dv), .val (.int (Int32.ofNat ng)), .val (.ref s2), .val (.ref s3), .unset] [(.int (Int32.ofNat (en + 1))), (.ref a)] ⟨rfl, (by rw [n_succ] <;> rfl)⟩ ?_
      refine Wp.callV ok_nof (a := a) (argsL := [(.int (Int32.ofNat (en + 1)))]) (rest := []) (ct_su1 G (i := en + 1) hxl hcap h2 (S1.ext E2)) (S1.ext E2).exa G.2.1 (G.1 _ (List.mem_of_getElem? (i := 163) rfl)) (G.1 _ (List.mem_of_getElem? (i := 164) rfl)) (G.1 _ (List.mem_of_getElem? (i := 166) rfl)) (G.1 _ (List.mem_of_getElem? (i := 165) rfl)) (G.1 _ (List.mem_of_getElem? (i := 8) rfl)) (G.1 _ (List.mem_of_getElem? (i := 167) rfl)) rfl rfl (by decide) pd_su1 rfl rfl (Nat.le_of_ble_eq_true rfl) (Nat.le_of_ble_eq_true rfl) (Nat.le_of_ble_eq_true rfl) (Nat.le_of_ble_eq_true rfl) all0 ?_
      rintro _ h3 ⟨s4, rfl, E3, -⟩ -
      refine Wp.run ok_nof 1 106 #[.val (.ref a), .val (.int (Int32.ofNat en)), .val (.int (Int32.ofNat en)), .val (.int dv), .val (.int (Int32.ofNat ng)), .val (.ref s2), .val (.ref s3), .val (.ref s4)] [] rfl ?_
      exact Wp.up (Nat.le_of_ble_eq_true rfl) (Nat.le_of_ble_eq_true rfl) (Nat.le_of_ble_eq_true rfl) (Nat.le_of_ble_eq_true rfl) all0 (r106 h3 _ dv s2 s3 s4 (ext_trans E2 E3) (T2.ext E3))
  have r50 : ∀ (h1 : Heap) (xi : Int32), (xi = -1 ∨ (xi = Int32.ofNat en ∧ en + 1 < cs.length)) → Ext h h1 → Wp l Z EL1 mt_nof ({ frames := 6, cells := 9, slots := 73, locals := 93 } : Room) h1 [] 2 8 50 #[.val (.ref a), .val (.int xi), .val (.int (Int32.ofNat en)), .val (.int (ixF cs (46 : Int32) 0)), .unset, .unset, .unset, .unset] [(.int (Int32.ofNat ng))] (fun v h' => ∃ o s2, v = some (.ref o) ∧ Ext h h' ∧ Exa Z h' o "com/example/mono_contract/monocontract/NumberText" ∧ Fld Z h' o "com/example/mono_contract/monocontract/NumberText" "text" "Ljava/lang/String;" (.ref a) ∧ Fld Z h' o "com/example/mono_contract/monocontract/NumberText" "negative" "Z" (.int (Int32.ofNat ng)) ∧ Fld Z h' o "com/example/mono_contract/monocontract/NumberText" "integer" "Ljava/lang/String;" (.ref s2) ∧ Str Z h' a cs ∧ Str Z h' s2 ((cs.drop ng).take (st - ng))) := by
    intro h1 xi hxi E1
    rcases hd with ⟨hd1, hd2⟩ | ⟨hd1, hd2⟩
    · refine Wp.at #[.val (.ref a), .val (.int xi), .val (.int (Int32.ofNat en)), .val (.int (-1)), .unset, .unset, .unset, .unset] [(.int (Int32.ofNat ng))] ⟨(by rw [ixF_none hd1] <;> rfl), rfl⟩ ?_
      refine Wp.run ok_nof 4 56 #[.val (.ref a), .val (.int xi), .val (.int (Int32.ofNat en)), .val (.int (-1)), .val (.int (Int32.ofNat ng)), .unset, .unset, .unset] [(.int (-1)), (.int (Int32.ofNat ng)), (.ref a)] rfl ?_
      refine Wp.ifF ok_nof rfl rfl (show (-1) < (0 : Int32) from by decide) ?_
      refine Wp.run ok_nof 2 64 #[.val (.ref a), .val (.int xi), .val (.int (Int32.ofNat en)), .val (.int (-1)), .val (.int (Int32.ofNat ng)), .unset, .unset, .unset] [(.int (Int32.ofNat en)), (.int (Int32.ofNat ng)), (.ref a)] rfl ?_
      refine Wp.at #[.val (.ref a), .val (.int xi), .val (.int (Int32.ofNat en)), .val (.int (-1)), .val (.int (Int32.ofNat ng)), .unset, .unset, .unset] [(.int (Int32.ofNat st)), (.int (Int32.ofNat ng)), (.ref a)] ⟨rfl, (by rw [← hd2] <;> rfl)⟩ ?_
      refine Wp.callV ok_nof (a := a) (argsL := [(.int (Int32.ofNat ng)), (.int (Int32.ofNat st))]) (rest := []) (ct_sub G (i := ng) (j := st) (by omega) (by omega) hcap hgs h1 (S1.ext E1)) (S1.ext E1).exa G.2.1 (G.1 _ (List.mem_of_getElem? (i := 100) rfl)) (G.1 _ (List.mem_of_getElem? (i := 101) rfl)) (G.1 _ (List.mem_of_getElem? (i := 103) rfl)) (G.1 _ (List.mem_of_getElem? (i := 102) rfl)) (G.1 _ (List.mem_of_getElem? (i := 8) rfl)) (G.1 _ (List.mem_of_getElem? (i := 104) rfl)) rfl rfl (by decide) pd_sub rfl rfl (Nat.le_of_ble_eq_true rfl) (Nat.le_of_ble_eq_true rfl) (Nat.le_of_ble_eq_true rfl) (Nat.le_of_ble_eq_true rfl) all0 ?_
      rintro _ h2 ⟨s2, rfl, E2, T2⟩ -
      refine Wp.run ok_nof 2 70 #[.val (.ref a), .val (.int xi), .val (.int (Int32.ofNat en)), .val (.int (-1)), .val (.int (Int32.ofNat ng)), .val (.ref s2), .unset, .unset] [(.int (-1))] rfl ?_
      refine Wp.ifF ok_nof rfl rfl (show (-1) < (0 : Int32) from by decide) ?_
      refine Wp.ldcStr ok_nof (nn := 0) [] (G.1 _ (List.mem_of_getElem? (i := 113) rfl)) (wS G) G.2.1 (by decide) (by decide +kernel) (latD (by decide)) (by decide) rfl (by decide) (by decide) (Nat.le_of_ble_eq_true rfl) (Nat.le_of_ble_eq_true rfl) ?_
      intro s3 h3 E3 S3 N3
      refine Wp.run ok_nof 2 88 #[.val (.ref a), .val (.int xi), .val (.int (Int32.ofNat en)), .val (.int (-1)), .val (.int (Int32.ofNat ng)), .val (.ref s2), .val (.ref s3), .unset] [] rfl ?_
      exact Wp.up (Nat.le_of_ble_eq_true rfl) (Nat.le_of_ble_eq_true rfl) (Nat.le_of_ble_eq_true rfl) (Nat.le_of_ble_eq_true rfl) all0 (r88 h3 xi _ s2 s3 hxi (ext_trans E1 (ext_trans E2 E3)) (T2.ext E3))
    · refine Wp.at #[.val (.ref a), .val (.int xi), .val (.int (Int32.ofNat en)), .val (.int (Int32.ofNat st)), .unset, .unset, .unset, .unset] [(.int (Int32.ofNat ng))] ⟨(by rw [ixF_some hd1] <;> rfl), rfl⟩ ?_
      refine Wp.run ok_nof 4 56 #[.val (.ref a), .val (.int xi), .val (.int (Int32.ofNat en)), .val (.int (Int32.ofNat st)), .val (.int (Int32.ofNat ng)), .unset, .unset, .unset] [(.int (Int32.ofNat st)), (.int (Int32.ofNat ng)), (.ref a)] rfl ?_
      refine Wp.ifT ok_nof 63 rfl rfl (show ¬ (Int32.ofNat st) < (0 : Int32) from Int32.ofNat_not_neg (by omega)) (by decide) (by decide) ?_
      refine Wp.run ok_nof 1 64 #[.val (.ref a), .val (.int xi), .val (.int (Int32.ofNat en)), .val (.int (Int32.ofNat st)), .val (.int (Int32.ofNat ng)), .unset, .unset, .unset] [(.int (Int32.ofNat st)), (.int (Int32.ofNat ng)), (.ref a)] rfl ?_
      refine Wp.callV ok_nof (a := a) (argsL := [(.int (Int32.ofNat ng)), (.int (Int32.ofNat st))]) (rest := []) (ct_sub G (i := ng) (j := st) (by omega) (by omega) hcap hgs h1 (S1.ext E1)) (S1.ext E1).exa G.2.1 (G.1 _ (List.mem_of_getElem? (i := 100) rfl)) (G.1 _ (List.mem_of_getElem? (i := 101) rfl)) (G.1 _ (List.mem_of_getElem? (i := 103) rfl)) (G.1 _ (List.mem_of_getElem? (i := 102) rfl)) (G.1 _ (List.mem_of_getElem? (i := 8) rfl)) (G.1 _ (List.mem_of_getElem? (i := 104) rfl)) rfl rfl (by decide) pd_sub rfl rfl (Nat.le_of_ble_eq_true rfl) (Nat.le_of_ble_eq_true rfl) (Nat.le_of_ble_eq_true rfl) (Nat.le_of_ble_eq_true rfl) all0 ?_
      rintro _ h2 ⟨s2, rfl, E2, T2⟩ -
      refine Wp.run ok_nof 2 70 #[.val (.ref a), .val (.int xi), .val (.int (Int32.ofNat en)), .val (.int (Int32.ofNat st)), .val (.int (Int32.ofNat ng)), .val (.ref s2), .unset, .unset] [(.int (Int32.ofNat st))] rfl ?_
      refine Wp.ifT ok_nof 78 rfl rfl (show ¬ (Int32.ofNat st) < (0 : Int32) from Int32.ofNat_not_neg (by omega)) (by decide) (by decide) ?_
      refine Wp.run ok_nof 5 83 #[.val (.ref a), .val (.int xi), .val (.int (Int32.ofNat en)), .val (.int (Int32.ofNat st)), .val (.int (Int32.ofNat ng)), .val (.ref s2), .unset, .unset] [(.int (Int32.ofNat en)), (.int ((Int32.ofNat st) + (1 : Int32))), (.ref a)] rfl ?_
      refine Wp.at #[.val (.ref a), .val (.int xi), .val (.int (Int32.ofNat en)), .val (.int (Int32.ofNat st)), .val (.int (Int32.ofNat ng)), .val (.ref s2), .unset, .unset] [(.int (Int32.ofNat en)), (.int (Int32.ofNat (st + 1))), (.ref a)] ⟨rfl, (by rw [n_succ] <;> rfl)⟩ ?_
      refine Wp.callV ok_nof (a := a) (argsL := [(.int (Int32.ofNat (st + 1))), (.int (Int32.ofNat en))]) (rest := []) (ct_sub G (i := st + 1) (j := en) (by omega) (by omega) hcap hd2 h2 ((S1.ext E1).ext E2)) ((S1.ext E1).ext E2).exa G.2.1 (G.1 _ (List.mem_of_getElem? (i := 100) rfl)) (G.1 _ (List.mem_of_getElem? (i := 101) rfl)) (G.1 _ (List.mem_of_getElem? (i := 103) rfl)) (G.1 _ (List.mem_of_getElem? (i := 102) rfl)) (G.1 _ (List.mem_of_getElem? (i := 8) rfl)) (G.1 _ (List.mem_of_getElem? (i := 104) rfl)) rfl rfl (by decide) pd_sub rfl rfl (Nat.le_of_ble_eq_true rfl) (Nat.le_of_ble_eq_true rfl) (Nat.le_of_ble_eq_true rfl) (Nat.le_of_ble_eq_true rfl) all0 ?_
      rintro _ h3 ⟨s3, rfl, E3, -⟩ -
      refine Wp.run ok_nof 1 88 #[.val (.ref a), .val (.int xi), .val (.int (Int32.ofNat en)), .val (.int (Int32.ofNat st)), .val (.int (Int32.ofNat ng)), .val (.ref s2), .val (.ref s3), .unset] [] rfl ?_
      exact Wp.up (Nat.le_of_ble_eq_true rfl) (Nat.le_of_ble_eq_true rfl) (Nat.le_of_ble_eq_true rfl) (Nat.le_of_ble_eq_true rfl) all0 (r88 h3 xi _ s2 s3 hxi (ext_trans E1 (ext_trans E2 E3)) (T2.ext E3))
  have r28 : ∀ xi : Int32, (xi = -1 ∨ (xi = Int32.ofNat en ∧ en + 1 < cs.length)) → Wp l Z EL1 mt_nof ({ frames := 6, cells := 9, slots := 73, locals := 93 } : Room) h [] 0 0 28 #[.val (.ref a), .val (.int xi), .unset, .unset, .unset, .unset, .unset, .unset] [(.int (Int32.ofNat en))] (fun v h' => ∃ o s2, v = some (.ref o) ∧ Ext h h' ∧ Exa Z h' o "com/example/mono_contract/monocontract/NumberText" ∧ Fld Z h' o "com/example/mono_contract/monocontract/NumberText" "text" "Ljava/lang/String;" (.ref a) ∧ Fld Z h' o "com/example/mono_contract/monocontract/NumberText" "negative" "Z" (.int (Int32.ofNat ng)) ∧ Fld Z h' o "com/example/mono_contract/monocontract/NumberText" "integer" "Ljava/lang/String;" (.ref s2) ∧ Str Z h' a cs ∧ Str Z h' s2 ((cs.drop ng).take (st - ng))) := by
    intro xi hxi
    refine Wp.run ok_nof 3 32 #[.val (.ref a), .val (.int xi), .val (.int (Int32.ofNat en)), .unset, .unset, .unset, .unset, .unset] [(.int (46 : Int32)), (.ref a)] rfl ?_
    refine Wp.callV ok_nof (a := a) (argsL := [(.int (46 : Int32))]) (rest := []) (ct_ix1 G (show 0 ≤ (46 : Int32).toInt ∧ (46 : Int32).toInt ≤ 255 by decide) h S1) S1.exa G.2.1 (G.1 _ (List.mem_of_getElem? (i := 39) rfl)) (G.1 _ (List.mem_of_getElem? (i := 40) rfl)) (G.1 _ (List.mem_of_getElem? (i := 42) rfl)) (G.1 _ (List.mem_of_getElem? (i := 41) rfl)) (G.1 _ (List.mem_of_getElem? (i := 8) rfl)) (G.1 _ (List.mem_of_getElem? (i := 43) rfl)) rfl rfl (by decide) pd_ix1 rfl rfl (Nat.le_of_ble_eq_true rfl) (Nat.le_of_ble_eq_true rfl) (Nat.le_of_ble_eq_true rfl) (Nat.le_of_ble_eq_true rfl) all0 ?_
    rintro _ _ ⟨rfl, rfl⟩ -
    refine Wp.run ok_nof 2 37 #[.val (.ref a), .val (.int xi), .val (.int (Int32.ofNat en)), .val (.int (ixF cs (46 : Int32) 0)), .unset, .unset, .unset, .unset] [(.ref a)] rfl ?_
    refine Wp.ldcStr ok_nof (nn := 4) [45] (G.1 _ (List.mem_of_getElem? (i := 83) rfl)) (wS G) G.2.1 (by decide) (by decide +kernel) (latD (by decide)) (by decide) rfl (by decide) (by decide) (Nat.le_of_ble_eq_true rfl) (Nat.le_of_ble_eq_true rfl) ?_
    intro lt h1 E1 T1 N1
    refine Wp.callV ok_nof (a := a) (argsL := [(.ref lt)]) (rest := []) (ct_sw1 G hx h1 (S1.ext E1) T1) (S1.ext E1).exa G.2.1 (G.1 _ (List.mem_of_getElem? (i := 86) rfl)) (G.1 _ (List.mem_of_getElem? (i := 87) rfl)) (G.1 _ (List.mem_of_getElem? (i := 89) rfl)) (G.1 _ (List.mem_of_getElem? (i := 88) rfl)) (G.1 _ (List.mem_of_getElem? (i := 8) rfl)) (G.1 _ (List.mem_of_getElem? (i := 90) rfl)) rfl rfl (by decide) pd_sw1 rfl rfl (Nat.le_of_ble_eq_true rfl) (Nat.le_of_ble_eq_true rfl) (Nat.le_of_ble_eq_true rfl) (Nat.le_of_ble_eq_true rfl) all0 ?_
    rintro _ _ ⟨rfl, rfl⟩ -
    rcases hg with ⟨hxx, rfl⟩ | ⟨hxx, rfl⟩
    · refine Wp.at #[.val (.ref a), .val (.int xi), .val (.int (Int32.ofNat en)), .val (.int (ixF cs (46 : Int32) 0)), .unset, .unset, .unset, .unset] [(.int 1)] ⟨rfl, (by rw [if_pos hxx] <;> rfl)⟩ ?_
      refine Wp.ifF ok_nof rfl rfl (show ¬ 1 = (0 : Int32) from by decide) ?_
      refine Wp.run ok_nof 2 50 #[.val (.ref a), .val (.int xi), .val (.int (Int32.ofNat en)), .val (.int (ixF cs (46 : Int32) 0)), .unset, .unset, .unset, .unset] [(.int (1 : Int32))] rfl ?_
      exact Wp.up (Nat.le_of_ble_eq_true rfl) (Nat.le_of_ble_eq_true rfl) (Nat.le_of_ble_eq_true rfl) (Nat.le_of_ble_eq_true rfl) all0 (r50 h1 xi hxi E1)
    · refine Wp.at #[.val (.ref a), .val (.int xi), .val (.int (Int32.ofNat en)), .val (.int (ixF cs (46 : Int32) 0)), .unset, .unset, .unset, .unset] [(.int 0)] ⟨rfl, (by rw [if_neg hxx] <;> rfl)⟩ ?_
      refine Wp.ifT ok_nof 49 rfl rfl (show 0 = (0 : Int32) from rfl) (by decide) (by decide) ?_
      refine Wp.run ok_nof 1 50 #[.val (.ref a), .val (.int xi), .val (.int (Int32.ofNat en)), .val (.int (ixF cs (46 : Int32) 0)), .unset, .unset, .unset, .unset] [(.int (0 : Int32))] rfl ?_
      exact Wp.up (Nat.le_of_ble_eq_true rfl) (Nat.le_of_ble_eq_true rfl) (Nat.le_of_ble_eq_true rfl) (Nat.le_of_ble_eq_true rfl) all0 (r50 h1 xi hxi E1)
  refine Wp.run ok_nof 2 3 #[.val (.ref a), .unset, .unset, .unset, .unset, .unset, .unset, .unset] [(.int (101 : Int32)), (.ref a)] rfl ?_
  refine Wp.callV ok_nof (a := a) (argsL := [(.int (101 : Int32))]) (rest := []) (ct_ix1 G (show 0 ≤ (101 : Int32).toInt ∧ (101 : Int32).toInt ≤ 255 by decide) h S1) S1.exa G.2.1 (G.1 _ (List.mem_of_getElem? (i := 39) rfl)) (G.1 _ (List.mem_of_getElem? (i := 40) rfl)) (G.1 _ (List.mem_of_getElem? (i := 42) rfl)) (G.1 _ (List.mem_of_getElem? (i := 41) rfl)) (G.1 _ (List.mem_of_getElem? (i := 8) rfl)) (G.1 _ (List.mem_of_getElem? (i := 43) rfl)) rfl rfl (by decide) pd_ix1 rfl rfl (Nat.le_of_ble_eq_true rfl) (Nat.le_of_ble_eq_true rfl) (Nat.le_of_ble_eq_true rfl) (Nat.le_of_ble_eq_true rfl) all0 ?_
  rintro _ _ ⟨rfl, rfl⟩ -
  refine Wp.run ok_nof 2 9 #[.val (.ref a), .unset, .unset, .unset, .unset, .unset, .unset, .unset] [(.int (69 : Int32)), (.ref a), (.int (ixF cs (101 : Int32) 0))] rfl ?_
  refine Wp.callV ok_nof (a := a) (argsL := [(.int (69 : Int32))]) (rest := [(.int (ixF cs (101 : Int32) 0))]) (ct_ix1 G (show 0 ≤ (69 : Int32).toInt ∧ (69 : Int32).toInt ≤ 255 by decide) h S1) S1.exa G.2.1 (G.1 _ (List.mem_of_getElem? (i := 39) rfl)) (G.1 _ (List.mem_of_getElem? (i := 40) rfl)) (G.1 _ (List.mem_of_getElem? (i := 42) rfl)) (G.1 _ (List.mem_of_getElem? (i := 41) rfl)) (G.1 _ (List.mem_of_getElem? (i := 8) rfl)) (G.1 _ (List.mem_of_getElem? (i := 43) rfl)) rfl rfl (by decide) pd_ix1 rfl rfl (Nat.le_of_ble_eq_true rfl) (Nat.le_of_ble_eq_true rfl) (Nat.le_of_ble_eq_true rfl) (Nat.le_of_ble_eq_true rfl) all0 ?_
  rintro _ _ ⟨rfl, rfl⟩ -
  rcases he with ⟨he1, he2, he3⟩ | ⟨⟨he1, he2⟩ | ⟨he1, he2⟩, he3⟩
  · refine Wp.at #[.val (.ref a), .unset, .unset, .unset, .unset, .unset, .unset, .unset] [(.int (-1)), (.int (-1))] ⟨rfl, (by rw [ixF_none he1, ixF_none he2] <;> rfl)⟩ ?_
    refine Wp.callS ok_nof (argsL := [(.int (-1)), (.int (-1))]) (rest := []) (ct_max G (x := -1) (y := -1) h) G.2.1 (G.1 _ (List.mem_of_getElem? (i := 81) rfl)) (G.1 _ (List.mem_of_getElem? (i := 72) rfl)) (G.1 _ (List.mem_of_getElem? (i := 73) rfl)) (G.1 _ (List.mem_of_getElem? (i := 74) rfl)) rfl rfl (by decide) pd_max rfl rfl (Nat.le_of_ble_eq_true rfl) (Nat.le_of_ble_eq_true rfl) (Nat.le_of_ble_eq_true rfl) (Nat.le_of_ble_eq_true rfl) all0 ?_
    rintro _ _ ⟨rfl, rfl⟩ -
    have mxe : (if (-1 : Int32) < (-1 : Int32) then -1 else -1) = (-1 : Int32) := if_neg (by decide)
    refine Wp.at #[.val (.ref a), .unset, .unset, .unset, .unset, .unset, .unset, .unset] [(.int (-1))] ⟨rfl, (by rw [mxe] <;> rfl)⟩ ?_
    refine Wp.run ok_nof 2 17 #[.val (.ref a), .val (.int (-1)), .unset, .unset, .unset, .unset, .unset, .unset] [(.int (-1))] rfl ?_
    refine Wp.ifF ok_nof rfl rfl (show (-1) < (0 : Int32) from by decide) ?_
    refine Wp.run ok_nof 1 21 #[.val (.ref a), .val (.int (-1)), .unset, .unset, .unset, .unset, .unset, .unset] [(.ref a)] rfl ?_
    refine Wp.callV ok_nof (a := a) (argsL := []) (rest := []) (ct_len G h S1) S1.exa G.2.1 (G.1 _ (List.mem_of_getElem? (i := 82) rfl)) (G.1 _ (List.mem_of_getElem? (i := 55) rfl)) (G.1 _ (List.mem_of_getElem? (i := 57) rfl)) (G.1 _ (List.mem_of_getElem? (i := 56) rfl)) (G.1 _ (List.mem_of_getElem? (i := 8) rfl)) (G.1 _ (List.mem_of_getElem? (i := 58) rfl)) rfl rfl (by decide) pd_len rfl rfl (Nat.le_of_ble_eq_true rfl) (Nat.le_of_ble_eq_true rfl) (Nat.le_of_ble_eq_true rfl) (Nat.le_of_ble_eq_true rfl) all0 ?_
    rintro _ _ ⟨rfl, rfl⟩ -
    refine Wp.at #[.val (.ref a), .val (.int (-1)), .unset, .unset, .unset, .unset, .unset, .unset] [(.int (Int32.ofNat en))] ⟨rfl, (by rw [← he3] <;> rfl)⟩ ?_
    refine Wp.run ok_nof 1 28 #[.val (.ref a), .val (.int (-1)), .unset, .unset, .unset, .unset, .unset, .unset] [(.int (Int32.ofNat en))] rfl ?_
    exact r28 _ (Or.inl rfl)
  · refine Wp.at #[.val (.ref a), .unset, .unset, .unset, .unset, .unset, .unset, .unset] [(.int (-1)), (.int (Int32.ofNat en))] ⟨rfl, (by rw [ixF_some he1, ixF_none he2] <;> rfl)⟩ ?_
    refine Wp.callS ok_nof (argsL := [(.int (Int32.ofNat en)), (.int (-1))]) (rest := []) (ct_max G (x := Int32.ofNat en) (y := -1) h) G.2.1 (G.1 _ (List.mem_of_getElem? (i := 81) rfl)) (G.1 _ (List.mem_of_getElem? (i := 72) rfl)) (G.1 _ (List.mem_of_getElem? (i := 73) rfl)) (G.1 _ (List.mem_of_getElem? (i := 74) rfl)) rfl rfl (by decide) pd_max rfl rfl (Nat.le_of_ble_eq_true rfl) (Nat.le_of_ble_eq_true rfl) (Nat.le_of_ble_eq_true rfl) (Nat.le_of_ble_eq_true rfl) all0 ?_
    rintro _ _ ⟨rfl, rfl⟩ -
    have mxe : (if Int32.ofNat en < (-1 : Int32) then -1 else Int32.ofNat en) = (Int32.ofNat en : Int32) := if_neg (by rw [Int32.lt_iff_toInt_lt, n_int (by omega), show (-1 : Int32).toInt = -1 from by decide]; omega)
    refine Wp.at #[.val (.ref a), .unset, .unset, .unset, .unset, .unset, .unset, .unset] [(.int (Int32.ofNat en))] ⟨rfl, (by rw [mxe] <;> rfl)⟩ ?_
    refine Wp.run ok_nof 2 17 #[.val (.ref a), .val (.int (Int32.ofNat en)), .unset, .unset, .unset, .unset, .unset, .unset] [(.int (Int32.ofNat en))] rfl ?_
    refine Wp.ifT ok_nof 27 rfl rfl (show ¬ (Int32.ofNat en) < (0 : Int32) from Int32.ofNat_not_neg (by omega)) (by decide) (by decide) ?_
    refine Wp.run ok_nof 1 28 #[.val (.ref a), .val (.int (Int32.ofNat en)), .unset, .unset, .unset, .unset, .unset, .unset] [(.int (Int32.ofNat en))] rfl ?_
    exact r28 _ (Or.inr ⟨rfl, he3⟩)
  · refine Wp.at #[.val (.ref a), .unset, .unset, .unset, .unset, .unset, .unset, .unset] [(.int (Int32.ofNat en)), (.int (-1))] ⟨rfl, (by rw [ixF_none he1, ixF_some he2] <;> rfl)⟩ ?_
    refine Wp.callS ok_nof (argsL := [(.int (-1)), (.int (Int32.ofNat en))]) (rest := []) (ct_max G (x := -1) (y := Int32.ofNat en) h) G.2.1 (G.1 _ (List.mem_of_getElem? (i := 81) rfl)) (G.1 _ (List.mem_of_getElem? (i := 72) rfl)) (G.1 _ (List.mem_of_getElem? (i := 73) rfl)) (G.1 _ (List.mem_of_getElem? (i := 74) rfl)) rfl rfl (by decide) pd_max rfl rfl (Nat.le_of_ble_eq_true rfl) (Nat.le_of_ble_eq_true rfl) (Nat.le_of_ble_eq_true rfl) (Nat.le_of_ble_eq_true rfl) all0 ?_
    rintro _ _ ⟨rfl, rfl⟩ -
    have mxe : (if (-1 : Int32) < Int32.ofNat en then Int32.ofNat en else -1) = (Int32.ofNat en : Int32) := if_pos (by rw [Int32.lt_iff_toInt_lt, n_int (by omega), show (-1 : Int32).toInt = -1 from by decide]; omega)
    refine Wp.at #[.val (.ref a), .unset, .unset, .unset, .unset, .unset, .unset, .unset] [(.int (Int32.ofNat en))] ⟨rfl, (by rw [mxe] <;> rfl)⟩ ?_
    refine Wp.run ok_nof 2 17 #[.val (.ref a), .val (.int (Int32.ofNat en)), .unset, .unset, .unset, .unset, .unset, .unset] [(.int (Int32.ofNat en))] rfl ?_
    refine Wp.ifT ok_nof 27 rfl rfl (show ¬ (Int32.ofNat en) < (0 : Int32) from Int32.ofNat_not_neg (by omega)) (by decide) (by decide) ?_
    refine Wp.run ok_nof 1 28 #[.val (.ref a), .val (.int (Int32.ofNat en)), .unset, .unset, .unset, .unset, .unset, .unset] [(.int (Int32.ofNat en))] rfl ?_
    exact r28 _ (Or.inr ⟨rfl, he3⟩)

abbrev mt_isi : Mth := (⟨"com/example/mono_contract/monocontract/NumberText", "isInteger", "()Z"⟩, prog_8_method_3_code, 1, some .boolean)
def tb_isi : Tab := [(0, .aload_n 0, 1), (1, .getfield 7, 3), (4, .invokevirtual 38, 3), (7, .aload_n 0, 1), (8, .getfield 13, 3), (11, .ifCond .eq 7, 3), (14, .iconst 1, 1), (15, .goto 4, 3), (18, .iconst 0, 1), (19, .aload_n 0, 1), (20, .getfield 17, 3), (23, .invokevirtual 38, 3), (26, .iadd, 1), (27, .if_icmp .ne 7, 3), (30, .iconst 1, 1), (31, .goto 4, 3), (34, .iconst 0, 1), (35, .ireturn, 1)]
theorem ok_isi : TabOk mt_isi.2.1 tb_isi := by
  intro x hx
  have q : tb_isi.all (fun x => decide (decode prog_8_method_3_code x.1 = .ok x.2)) = true := by decide +kernel
  exact of_decide_eq_true (List.all_eq_true.mp q x hx)
theorem pl_isi : plainFor mt_isi.1 = true := by first | decide +kernel | exact plainFor_of_name (by first | (simp [plainName, overriddenIn]; done) | decide +kernel)
theorem pd_isi : parseMethodDescriptor "()Z" = some ⟨[], some .boolean⟩ := by decide +kernel

set_option maxRecDepth 65536 in
set_option maxHeartbeats 4000000 in
theorem ct_isi {l : Launch} {Z : State} {a0 : Array Value} (G : Gd Z a0) {o s1 s2 : Addr} {cs is : List Int32} {ng : Nat} (hg : ng ≤ 1) (hil : is.length ≤ 16) (h : Heap) (F1 : Fld Z h o "com/example/mono_contract/monocontract/NumberText" "text" "Ljava/lang/String;" (.ref s1)) (F2 : Fld Z h o "com/example/mono_contract/monocontract/NumberText" "negative" "Z" (.int (Int32.ofNat ng))) (F3 : Fld Z h o "com/example/mono_contract/monocontract/NumberText" "integer" "Ljava/lang/String;" (.ref s2)) (S1 : Str Z h s1 cs) (S2 : Str Z h s2 is) :
    Ct l Z EL1 mt_isi ({ frames := 2, cells := 0, slots := 0, locals := 27 } : Room) #[(.ref o)] h [] (fun v h' => v = some (.int (if cs.length = ng + is.length then 1 else 0)) ∧ h = h') := by
  refine Ct.of_wp pl_isi G.2.1 (Ls := #[.val (.ref o)]) rfl ?_
  have l1 := S1.len
  have l2 := S2.len
  refine Wp.run ok_isi 1 1 #[.val (.ref o)] [(.ref o)] rfl ?_
  refine Wp.getF ok_isi F1 (G.1 _ (List.mem_of_getElem? (i := 126) rfl)) Via.refl rfl rfl ?_
  refine Wp.callV ok_isi (a := s1) (argsL := []) (rest := []) (ct_len G h S1) S1.exa G.2.1 (G.1 _ (List.mem_of_getElem? (i := 82) rfl)) (G.1 _ (List.mem_of_getElem? (i := 55) rfl)) (G.1 _ (List.mem_of_getElem? (i := 57) rfl)) (G.1 _ (List.mem_of_getElem? (i := 56) rfl)) (G.1 _ (List.mem_of_getElem? (i := 8) rfl)) (G.1 _ (List.mem_of_getElem? (i := 58) rfl)) rfl rfl (by decide) pd_len rfl rfl (Nat.le_of_ble_eq_true rfl) (Nat.le_of_ble_eq_true rfl) (Nat.le_of_ble_eq_true rfl) (Nat.le_of_ble_eq_true rfl) all0 ?_
  rintro _ _ ⟨rfl, rfl⟩ -
  refine Wp.run ok_isi 1 8 #[.val (.ref o)] [(.ref o), (.int (Int32.ofNat cs.length))] rfl ?_
  refine Wp.getF ok_isi F2 (G.1 _ (List.mem_of_getElem? (i := 128) rfl)) Via.refl rfl rfl ?_
  obtain rfl | rfl : ng = 1 ∨ ng = 0 := by omega
  · refine Wp.ifF ok_isi rfl rfl (show ¬ (Int32.ofNat 1) = (0 : Int32) from by decide) ?_
    refine Wp.run ok_isi 3 20 #[.val (.ref o)] [(.ref o), (.int (1 : Int32)), (.int (Int32.ofNat cs.length))] rfl ?_
    refine Wp.getF ok_isi F3 (G.1 _ (List.mem_of_getElem? (i := 130) rfl)) Via.refl rfl rfl ?_
    refine Wp.callV ok_isi (a := s2) (argsL := []) (rest := [(.int (1 : Int32)), (.int (Int32.ofNat cs.length))]) (ct_len G h S2) S2.exa G.2.1 (G.1 _ (List.mem_of_getElem? (i := 82) rfl)) (G.1 _ (List.mem_of_getElem? (i := 55) rfl)) (G.1 _ (List.mem_of_getElem? (i := 57) rfl)) (G.1 _ (List.mem_of_getElem? (i := 56) rfl)) (G.1 _ (List.mem_of_getElem? (i := 8) rfl)) (G.1 _ (List.mem_of_getElem? (i := 58) rfl)) rfl rfl (by decide) pd_len rfl rfl (Nat.le_of_ble_eq_true rfl) (Nat.le_of_ble_eq_true rfl) (Nat.le_of_ble_eq_true rfl) (Nat.le_of_ble_eq_true rfl) all0 ?_
    rintro _ _ ⟨rfl, rfl⟩ -
    refine Wp.run ok_isi 1 27 #[.val (.ref o)] [(.int ((1 : Int32) + (Int32.ofNat is.length))), (.int (Int32.ofNat cs.length))] rfl ?_
    refine Wp.at #[.val (.ref o)] [(.int (Int32.ofNat (1 + is.length))), (.int (Int32.ofNat cs.length))] ⟨rfl, (by rw [show (1 : Int32) + Int32.ofNat is.length = Int32.ofNat (1 + is.length) from n_add 1 _] <;> rfl)⟩ ?_
    refine Wp.icmp ok_isi 34 rfl rfl (by decide) (by decide) (fun hq => ?_) (fun hq => ?_)
    · replace hq : ¬ (Int32.ofNat cs.length) = (Int32.ofNat (1 + is.length)) := hq
      refine Wp.run ok_isi 1 35 #[.val (.ref o)] [(.int (0 : Int32))] rfl ?_
      exact Wp.retI ok_isi (t := .boolean) rfl (by decide) rfl rfl rfl ⟨by rw [if_neg (fun e => hq (by rw [e]))], rfl⟩
    · replace hq : (Int32.ofNat cs.length) = (Int32.ofNat (1 + is.length)) := hq
      refine Wp.run ok_isi 2 35 #[.val (.ref o)] [(.int (1 : Int32))] rfl ?_
      exact Wp.retI ok_isi (t := .boolean) rfl (by decide) rfl rfl rfl ⟨by rw [if_pos ((n_eq (by omega) (by omega)).mp hq)], rfl⟩
  · refine Wp.ifT ok_isi 18 rfl rfl (show (Int32.ofNat 0) = (0 : Int32) from rfl) (by decide) (by decide) ?_
    refine Wp.run ok_isi 2 20 #[.val (.ref o)] [(.ref o), (.int (0 : Int32)), (.int (Int32.ofNat cs.length))] rfl ?_
    refine Wp.getF ok_isi F3 (G.1 _ (List.mem_of_getElem? (i := 130) rfl)) Via.refl rfl rfl ?_
    refine Wp.callV ok_isi (a := s2) (argsL := []) (rest := [(.int (0 : Int32)), (.int (Int32.ofNat cs.length))]) (ct_len G h S2) S2.exa G.2.1 (G.1 _ (List.mem_of_getElem? (i := 82) rfl)) (G.1 _ (List.mem_of_getElem? (i := 55) rfl)) (G.1 _ (List.mem_of_getElem? (i := 57) rfl)) (G.1 _ (List.mem_of_getElem? (i := 56) rfl)) (G.1 _ (List.mem_of_getElem? (i := 8) rfl)) (G.1 _ (List.mem_of_getElem? (i := 58) rfl)) rfl rfl (by decide) pd_len rfl rfl (Nat.le_of_ble_eq_true rfl) (Nat.le_of_ble_eq_true rfl) (Nat.le_of_ble_eq_true rfl) (Nat.le_of_ble_eq_true rfl) all0 ?_
    rintro _ _ ⟨rfl, rfl⟩ -
    refine Wp.run ok_isi 1 27 #[.val (.ref o)] [(.int ((0 : Int32) + (Int32.ofNat is.length))), (.int (Int32.ofNat cs.length))] rfl ?_
    refine Wp.at #[.val (.ref o)] [(.int (Int32.ofNat (0 + is.length))), (.int (Int32.ofNat cs.length))] ⟨rfl, (by rw [show (0 : Int32) + Int32.ofNat is.length = Int32.ofNat (0 + is.length) from n_add 0 _] <;> rfl)⟩ ?_
    refine Wp.icmp ok_isi 34 rfl rfl (by decide) (by decide) (fun hq => ?_) (fun hq => ?_)
    · replace hq : ¬ (Int32.ofNat cs.length) = (Int32.ofNat (0 + is.length)) := hq
      refine Wp.run ok_isi 1 35 #[.val (.ref o)] [(.int (0 : Int32))] rfl ?_
      exact Wp.retI ok_isi (t := .boolean) rfl (by decide) rfl rfl rfl ⟨by rw [if_neg (fun e => hq (by rw [e]))], rfl⟩
    · replace hq : (Int32.ofNat cs.length) = (Int32.ofNat (0 + is.length)) := hq
      refine Wp.run ok_isi 2 35 #[.val (.ref o)] [(.int (1 : Int32))] rfl ?_
      exact Wp.retI ok_isi (t := .boolean) rfl (by decide) rfl rfl rfl ⟨by rw [if_pos ((n_eq (by omega) (by omega)).mp hq)], rfl⟩
end Jvm.Pilot.@@N@@
namespace Jvm.Pilot.@@N@@
open Jvm Jvm.ClassFile Sem Op Lib Jvm.Free Jvm.Stand Jvm.LawKit Jvm.RoadKit Bundle Jvm.Pilot.@@N@@.Jvm.D Jvm.Pilot.@@N@@.Kw
theorem fx_app {c : Int32} (ys : List Int32) : ∀ (xs : List Int32) (k : Nat), (∀ x ∈ xs, x ≠ c) → fx (xs ++ ys) c k = fx ys c (k + xs.length)
  | [], k, _ => rfl
  | x :: xs, k, h => by
    show (if x = c then some k else fx (xs ++ ys) c (k + 1)) = _
    rw [if_neg (h x (List.mem_cons_self ..)), fx_app ys xs (k + 1) (fun z hz => h z (List.mem_cons_of_mem _ hz)), List.length_cons]; congr 1; omega
theorem fx_out {c : Int32} (xs : List Int32) (k : Nat) (h : ∀ x ∈ xs, x ≠ c) : fx xs c k = none := by
  have := fx_app (c := c) [] xs k h
  rw [List.append_nil] at this; exact this
theorem fx_hit {c : Int32} {xs ys : List Int32} (h : ∀ x ∈ xs, x ≠ c) : fx (xs ++ c :: ys) c 0 = some xs.length := by
  rw [fx_app _ xs 0 h]
  show (if c = c then some (0 + xs.length) else _) = _
  rw [if_pos rfl, Nat.zero_add]
def Dg (c : Int32) : Prop := 48 ≤ c.toInt ∧ c.toInt ≤ 57
theorem Dg.lat {c : Int32} (h : Dg c) : 0 ≤ c.toInt ∧ c.toInt ≤ 255 := by unfold Dg at h; omega
theorem Dg.ne {c d : Int32} (h : Dg c) (q : d.toInt < 48 ∨ 57 < d.toInt) : c ≠ d := fun e => by subst e; unfold Dg at h; omega
abbrev Ng (ng : List Int32) : Prop := ng = [] ∨ ng = [45]
abbrev Ip (d1 d2 : Int32) (ip : List Int32) : Prop := ip = [d1] ∨ ip = [d1, d2]
abbrev Dp (f d3 : Int32) (dp : List Int32) : Prop := (f = 0 ∧ dp = []) ∨ (¬ f = 0 ∧ dp = [46, d3])
abbrev Ep (f d4 : Int32) (ep : List Int32) : Prop := (f = 0 ∧ ep = []) ∨ (¬ f = 0 ∧ ∃ e sg, (e = 101 ∨ e = 69) ∧ (sg = [] ∨ sg = [43] ∨ sg = [45]) ∧ ep = e :: (sg ++ [d4]))
theorem shape {f5 f6 d1 d2 d3 d4 : Int32} {cs ng ip dp ep : List Int32} (h1 : Dg d1) (h2 : Dg d2) (h3 : Dg d3) (h4 : Dg d4) (hn : Ng ng) (hi : Ip d1 d2 ip) (hd : Dp f5 d3 dp) (he : Ep f6 d4 ep) (hc : cs = ng ++ ip ++ dp ++ ep) :
    Lat cs ∧ 1 ≤ cs.length ∧ cs.length ≤ 8 ∧ ∃ (x : Int32) (en st g : Nat), cs[0]? = some x ∧
      ((fx cs 101 0 = none ∧ fx cs 69 0 = none ∧ en = cs.length) ∨ (((fx cs 101 0 = some en ∧ fx cs 69 0 = none) ∨ (fx cs 101 0 = none ∧ fx cs 69 0 = some en)) ∧ en + 1 < cs.length)) ∧
      ((fx cs 46 0 = none ∧ st = en) ∨ (fx cs 46 0 = some st ∧ st + 1 < en)) ∧ ((x = 45 ∧ g = 1) ∨ (¬ x = 45 ∧ g = 0)) ∧ g < st ∧ g ≤ 1 ∧ st ≤ cs.length ∧
      (st = cs.length ↔ f5 = 0 ∧ f6 = 0) := by
  have in1 : ∀ x ∈ ng, x = 45 := by rcases hn with rfl | rfl <;> simp
  have in2 : ∀ x ∈ ip, Dg x := by rcases hi with rfl | rfl <;> simp [h1, h2]
  have in3 : ∀ x ∈ dp, x = 46 ∨ Dg x := by rcases hd with ⟨-, rfl⟩ | ⟨-, rfl⟩ <;> simp [h3]
  have lip : 1 ≤ ip.length ∧ ip.length ≤ 2 := by rcases hi with rfl | rfl <;> simp
  have lng : ng.length ≤ 1 := by rcases hn with rfl | rfl <;> simp
  have ldp : (f5 = 0 ∧ dp.length = 0) ∨ (¬ f5 = 0 ∧ dp.length = 2) := by rcases hd with ⟨q, rfl⟩ | ⟨q, rfl⟩ <;> simp [q]
  have lep : (f6 = 0 ∧ ep.length = 0) ∨ (¬ f6 = 0 ∧ 2 ≤ ep.length ∧ ep.length ≤ 3) := by
    rcases he with ⟨q, rfl⟩ | ⟨q, e, sg, -, rfl | rfl | rfl, rfl⟩ <;> simp [q]
  have lcs : cs.length = ng.length + ip.length + dp.length + ep.length := by rw [hc]; simp [Nat.add_assoc]
  have in4 : ∀ x ∈ ep, 0 ≤ x.toInt ∧ x.toInt ≤ 255 := by
    rcases he with ⟨-, rfl⟩ | ⟨-, e, sg, rfl | rfl, rfl | rfl | rfl, rfl⟩
    · simp
    all_goals (intro x hx; simp at hx; rcases hx with rfl | hx; · decide)
    all_goals first | (subst hx; exact h4.lat) | (rcases hx with rfl | rfl <;> first | exact h4.lat | decide)
  have hlat : Lat cs := fun x hx => by
    rw [hc] at hx
    rcases List.mem_append.mp hx with hx | hx
    · rcases List.mem_append.mp hx with hx | hx
      · rcases List.mem_append.mp hx with hx | hx
        · rw [in1 x hx]; decide
        · exact (in2 x hx).lat
      · rcases in3 x hx with rfl | hx
        · decide
        · exact hx.lat
    · exact in4 x hx
  refine ⟨hlat, by omega, by omega, ?_⟩
  have nip : ∀ (c : Int32), c ≠ 45 → (c.toInt < 48 ∨ 57 < c.toInt) → ∀ x ∈ ng ++ ip, x ≠ c := fun c q r x hx => by
    rcases List.mem_append.mp hx with hx | hx
    · rw [in1 x hx]; exact fun z => q z.symm
    · exact (in2 x hx).ne r
  have nid : ∀ (c : Int32), c ≠ 45 → c ≠ 46 → (c.toInt < 48 ∨ 57 < c.toInt) → ∀ x ∈ ng ++ ip ++ dp, x ≠ c := fun c q q' r x hx => by
    rcases List.mem_append.mp hx with hx | hx
    · exact nip c q r x hx
    · rcases in3 x hx with rfl | hx
      · exact fun z => q' z.symm
      · exact hx.ne r
  obtain ⟨x, g, hx, hg, hgl⟩ : ∃ (x : Int32) (g : Nat), cs[0]? = some x ∧ ((x = 45 ∧ g = 1) ∨ (¬ x = 45 ∧ g = 0)) ∧ g = ng.length := by
    rcases hn with rfl | rfl
    · refine ⟨d1, 0, ?_, Or.inr ⟨h1.ne (by decide), rfl⟩, rfl⟩
      rcases hi with rfl | rfl <;> (rw [hc]; rfl)
    · exact ⟨45, 1, by rw [hc]; rfl, Or.inl ⟨rfl, rfl⟩, rfl⟩
  have hE : (f6 = 0 ∧ fx cs 101 0 = none ∧ fx cs 69 0 = none ∧ ep = []) ∨ (¬ f6 = 0 ∧ ((fx cs 101 0 = some (ng ++ ip ++ dp).length ∧ fx cs 69 0 = none) ∨ (fx cs 101 0 = none ∧ fx cs 69 0 = some (ng ++ ip ++ dp).length))) := by
    rcases he with ⟨q, rfl⟩ | ⟨q, e, sg, hee, hsg, rfl⟩
    · rw [List.append_nil] at hc
      exact Or.inl ⟨q, by rw [hc]; exact fx_out _ _ (nid 101 (by decide) (by decide) (by decide)), by rw [hc]; exact fx_out _ _ (nid 69 (by decide) (by decide) (by decide)), rfl⟩
    · refine Or.inr ⟨q, ?_⟩
      have tl : ∀ c : Int32, c = 101 ∨ c = 69 → ∀ x ∈ sg ++ [d4], x ≠ c := fun c hcc x hx => by
        rcases List.mem_append.mp hx with hx | hx
        · rcases hsg with rfl | rfl | rfl
          · simp at hx
          all_goals (simp at hx; subst hx; rcases hcc with rfl | rfl <;> decide)
        · simp at hx; subst hx; rcases hcc with rfl | rfl
          · exact h4.ne (by decide)
          · exact h4.ne (by decide)
      rcases hee with rfl | rfl
      · refine Or.inl ⟨by rw [hc]; exact fx_hit (nid 101 (by decide) (by decide) (by decide)), ?_⟩
        rw [hc]; refine fx_out _ _ fun x hx => ?_
        rcases List.mem_append.mp hx with hx | hx
        · exact nid 69 (by decide) (by decide) (by decide) x hx
        · rcases List.mem_cons.mp hx with rfl | hx
          · decide
          · exact tl 69 (Or.inr rfl) x hx
      · refine Or.inr ⟨?_, by rw [hc]; exact fx_hit (nid 69 (by decide) (by decide) (by decide))⟩
        rw [hc]; refine fx_out _ _ fun x hx => ?_
        rcases List.mem_append.mp hx with hx | hx
        · exact nid 101 (by decide) (by decide) (by decide) x hx
        · rcases List.mem_cons.mp hx with rfl | hx
          · decide
          · exact tl 101 (Or.inl rfl) x hx
  have e46 : ∀ x ∈ ep, x ≠ 46 := by
    rcases he with ⟨-, rfl⟩ | ⟨-, e, sg, rfl | rfl, rfl | rfl | rfl, rfl⟩
    · simp
    all_goals (intro x hx; simp at hx; rcases hx with rfl | hx; · decide)
    all_goals first | (subst hx; exact h4.ne (by decide)) | (rcases hx with rfl | rfl <;> first | exact h4.ne (by decide) | decide)
  have hD : (f5 = 0 ∧ fx cs 46 0 = none) ∨ (¬ f5 = 0 ∧ fx cs 46 0 = some (ng ++ ip).length) := by
    rcases hd with ⟨q, rfl⟩ | ⟨q, rfl⟩
    · refine Or.inl ⟨q, ?_⟩
      rw [hc, List.append_nil]; refine fx_out _ _ fun x hx => ?_
      rcases List.mem_append.mp hx with hx | hx
      · exact nip 46 (by decide) (by decide) x hx
      · exact e46 x hx
    · refine Or.inr ⟨q, ?_⟩
      rw [hc, List.append_assoc]; exact fx_hit (nip 46 (by decide) (by decide))
  have l1 : (ng ++ ip ++ dp).length = ng.length + ip.length + dp.length := by simp [Nat.add_assoc]
  have l2 : (ng ++ ip).length = ng.length + ip.length := by simp
  rw [l1] at hE; rw [l2] at hD
  rcases hE with ⟨f6z, ea, eb, ee⟩ | ⟨f6n, ee⟩ <;> rcases hD with ⟨f5z, da⟩ | ⟨f5n, da⟩
  · refine ⟨x, cs.length, cs.length, g, hx, Or.inl ⟨ea, eb, rfl⟩, Or.inl ⟨da, rfl⟩, hg, by omega, by omega, by omega, ?_⟩
    exact ⟨fun _ => ⟨f5z, f6z⟩, fun _ => rfl⟩
  · refine ⟨x, cs.length, ng.length + ip.length, g, hx, Or.inl ⟨ea, eb, rfl⟩, Or.inr ⟨da, ?_⟩, hg, by omega, by omega, by omega, ?_⟩
    · rcases ldp with q | q
      · exact absurd q.1 f5n
      · rcases lep with r | r <;> omega
    · refine ⟨fun z => ?_, fun z => absurd z.1 f5n⟩
      rcases ldp with q | q
      · exact absurd q.1 f5n
      · exact absurd z (by rcases lep with r | r <;> omega)
  · rcases lep with r | r
    · exact absurd r.1 f6n
    · refine ⟨x, ng.length + ip.length + dp.length, ng.length + ip.length + dp.length, g, hx, Or.inr ⟨ee, by omega⟩, Or.inl ⟨da, rfl⟩, hg, by omega, by omega, by omega, ?_⟩
      exact ⟨fun z => absurd z (by omega), fun z => absurd z.2 f6n⟩
  · rcases lep with r | r
    · exact absurd r.1 f6n
    · rcases ldp with q | q
      · exact absurd q.1 f5n
      · refine ⟨x, ng.length + ip.length + dp.length, ng.length + ip.length, g, hx, Or.inr ⟨ee, by omega⟩, Or.inr ⟨da, by omega⟩, hg, by omega, by omega, by omega, ?_⟩
        exact ⟨fun z => absurd z (by omega), fun z => absurd z.2 f6n⟩
abbrev Bf (ps : List Int32) : List Int32 := ps ++ List.replicate (8 - ps.length) 0
theorem put_step {ps : List Int32} {c : Int32} (h : ps.length < 8) : ((Bf ps).map Value.int).set ps.length (.int c) = (Bf (ps ++ [c])).map Value.int := by
  have e : 8 - ps.length = (8 - (ps.length + 1)) + 1 := by omega
  simp only [Bf]
  rw [← List.map_set, List.set_append_right _ _ (Nat.le_refl _), Nat.sub_self, e, List.replicate_succ, List.set_cons_zero, List.append_assoc]
  simp
theorem len_step (ps : List Int32) (c : Int32) : Int32.ofNat ps.length + (1 : Int32) = Int32.ofNat (ps ++ [c]).length := by rw [List.length_append]; exact n_succ _
theorem dig {m : Nat} (h : m < 10) : Dg (48 + Int32.ofNat m) := by
  have e : (48 : Int32) + Int32.ofNat m = Int32.ofNat (48 + m) := n_add 48 m
  unfold Dg; rw [e, n_int (by omega)]; omega
theorem dig1 {m : Nat} (h : m < 9) : Dg (49 + Int32.ofNat m) := by
  have e : (49 : Int32) + Int32.ofNat m = Int32.ofNat (49 + m) := n_add 49 m
  unfold Dg; rw [e, n_int (by omega)]; omega
theorem divmod (x : Int32) : ∃ m, m < 10 ∧ (x &&& 2147483647) / 10 % 10 = Int32.ofNat m := by
  have h0 : 0 ≤ (x &&& 2147483647).toInt := by rw [Int32.and_comm]; exact (c_and' 2147483647 x (by decide)).1
  have e0 := (c_idiv (x &&& 2147483647) 10 10 (by decide) (by decide)).1 h0
  have h1 : 0 ≤ ((x &&& 2147483647) / 10).toInt := by rw [e0]; exact Int.ediv_nonneg h0 (by decide)
  have e1 := (c_irem ((x &&& 2147483647) / 10) 10 10 (by decide)).1 h1
  have h2 : 0 ≤ ((x &&& 2147483647) / 10 % 10).toInt := by rw [e1]; exact Int.emod_nonneg _ (by decide)
  have h3 : ((x &&& 2147483647) / 10 % 10).toInt < 10 := by rw [e1]; exact Int.emod_lt_of_pos _ (by decide)
  obtain ⟨e2, -⟩ := n_of h2
  exact ⟨_, by omega, e2⟩
theorem eight {xs : List Int32} (h : xs.length = 8) : ∃ x0 x1 x2 x3 x4 x5 x6 x7, xs = [x0, x1, x2, x3, x4, x5, x6, x7] := by
  match xs, h with
  | [x0, x1, x2, x3, x4, x5, x6, x7], _ => exact ⟨x0, x1, x2, x3, x4, x5, x6, x7, rfl⟩
end Jvm.Pilot.@@N@@
namespace Jvm.Pilot.@@N@@
open Jvm Jvm.ClassFile Sem Op Lib Jvm.Free Jvm.Stand Jvm.LawKit Jvm.RoadKit Bundle Jvm.Pilot.@@N@@.Jvm.D Jvm.Pilot.@@N@@.Kw
abbrev mt_law : Mth := (x, code, maxLocals, ret)
def tb_law : Tab := [(0, .iload_n 0, 1), (1, .iconst 1, 1), (2, .iand, 1), (3, .ifCond .eq 7, 3), (6, .iconst 1, 1), (7, .goto 4, 3), (10, .iconst 0, 1), (11, .istore_n 3, 1), (12, .iload_n 0, 1), (13, .iconst 2, 1), (14, .iand, 1), (15, .ifCond .eq 7, 3), (18, .iconst 1, 1), (19, .goto 4, 3), (22, .iconst 0, 1), (23, .istore 4, 2), (25, .iload_n 0, 1), (26, .iconst 4, 1), (27, .iand, 1), (28, .ifCond .eq 7, 3), (31, .iconst 1, 1), (32, .goto 4, 3), (35, .iconst 0, 1), (36, .istore 5, 2), (38, .iload_n 0, 1), (39, .bipush 8, 2), (41, .iand, 1), (42, .ifCond .eq 7, 3), (45, .iconst 1, 1), (46, .goto 4, 3), (49, .iconst 0, 1), (50, .istore 6, 2), (52, .iload_n 0, 1), (53, .bipush 16, 2), (55, .iand, 1), (56, .ifCond .eq 7, 3), (59, .iconst 1, 1), (60, .goto 4, 3), (63, .iconst 0, 1), (64, .istore 7, 2), (66, .iload_n 0, 1), (67, .iconst 5, 1), (68, .iushr, 1), (69, .iconst 3, 1), (70, .iand, 1), (71, .istore 8, 2), (73, .iload_n 1, 1), (74, .ldc 7, 2), (76, .iand, 1), (77, .istore 9, 2), (79, .iload_n 2, 1), (80, .ldc 7, 2), (82, .iand, 1), (83, .istore 10, 2), (85, .iload 4, 2), (87, .ifCond .eq 15, 3), (90, .bipush 49, 2), (92, .iload 9, 2), (94, .bipush 9, 2), (96, .irem, 1), (97, .iadd, 1), (98, .i2c, 1), (99, .goto 12, 3), (102, .bipush 48, 2), (104, .iload 9, 2), (106, .bipush 10, 2), (108, .irem, 1), (109, .iadd, 1), (110, .i2c, 1), (111, .istore 11, 2), (113, .bipush 48, 2), (115, .iload 9, 2), (117, .bipush 10, 2), (119, .idiv, 1), (120, .bipush 10, 2), (122, .irem, 1), (123, .iadd, 1), (124, .i2c, 1), (125, .istore 12, 2), (127, .bipush 48, 2), (129, .iload 10, 2), (131, .bipush 10, 2), (133, .irem, 1), (134, .iadd, 1), (135, .i2c, 1), (136, .istore 13, 2), (138, .bipush 48, 2), (140, .iload 10, 2), (142, .bipush 10, 2), (144, .idiv, 1), (145, .bipush 10, 2), (147, .irem, 1), (148, .iadd, 1), (149, .i2c, 1), (150, .istore 14, 2), (152, .bipush 8, 2), (154, .newarray .char, 2), (156, .astore 15, 2), (158, .iconst 0, 1), (159, .istore 16, 2), (161, .iload_n 3, 1), (162, .ifCond .eq 13, 3), (165, .aload 15, 2), (167, .iload 16, 2), (169, .bipush 45, 2), (171, .castore, 1), (172, .iinc 16 1, 3), (175, .aload 15, 2), (177, .iload 16, 2), (179, .iload 11, 2), (181, .castore, 1), (182, .iinc 16 1, 3), (185, .iload 4, 2), (187, .ifCond .eq 13, 3), (190, .aload 15, 2), (192, .iload 16, 2), (194, .iload 12, 2), (196, .castore, 1), (197, .iinc 16 1, 3), (200, .iload 5, 2), (202, .ifCond .eq 23, 3), (205, .aload 15, 2), (207, .iload 16, 2), (209, .bipush 46, 2), (211, .castore, 1), (212, .iinc 16 1, 3), (215, .aload 15, 2), (217, .iload 16, 2), (219, .iload 13, 2), (221, .castore, 1), (222, .iinc 16 1, 3), (225, .iload 6, 2), (227, .ifCond .eq 68, 3), (230, .aload 15, 2), (232, .iload 16, 2), (234, .iload 7, 2), (236, .ifCond .eq 8, 3), (239, .bipush 69, 2), (241, .goto 5, 3), (244, .bipush 101, 2), (246, .castore, 1), (247, .iinc 16 1, 3), (250, .iload 8, 2), (252, .iconst 1, 1), (253, .if_icmp .ne 16, 3), (256, .aload 15, 2), (258, .iload 16, 2), (260, .bipush 43, 2), (262, .castore, 1), (263, .iinc 16 1, 3), (266, .goto 19, 3), (269, .iload 8, 2), (271, .iconst 2, 1), (272, .if_icmp .ne 13, 3), (275, .aload 15, 2), (277, .iload 16, 2), (279, .bipush 45, 2), (281, .castore, 1), (282, .iinc 16 1, 3), (285, .aload 15, 2), (287, .iload 16, 2), (289, .iload 14, 2), (291, .castore, 1), (292, .iinc 16 1, 3), (295, .aload 15, 2), (297, .iload 16, 2), (299, .invokestatic 8, 3), (302, .astore 17, 2), (304, .aload 17, 2), (306, .invokestatic 14, 3), (309, .astore 18, 2), (311, .iload 5, 2), (313, .ifCond .ne 12, 3), (316, .iload 6, 2), (318, .ifCond .ne 7, 3), (321, .iconst 1, 1), (322, .goto 4, 3), (325, .iconst 0, 1), (326, .istore 19, 2), (328, .aload 18, 2), (330, .invokevirtual 20, 3), (333, .iload 19, 2), (335, .if_icmp .ne 7, 3), (338, .iconst 1, 1), (339, .goto 4, 3), (342, .iconst 0, 1), (343, .ireturn, 1)]
theorem ok_law : TabOk mt_law.2.1 tb_law := by
  intro x hx
  have q : tb_law.all (fun x => decide (decode code x.1 = .ok x.2)) = true := by decide +kernel
  exact of_decide_eq_true (List.all_eq_true.mp q x hx)
theorem pl_law : plainFor mt_law.1 = true := by first | decide +kernel | exact plainFor_of_name (by first | (simp [plainName, overriddenIn]; done) | decide +kernel)
theorem pd_law : parseMethodDescriptor "(III)Z" = some ⟨[.int, .int, .int], some .boolean⟩ := by decide +kernel

set_option maxRecDepth 65536 in
set_option maxHeartbeats 8000000 in
theorem ct_law {l : Launch} {Z : State} {a0 : Array Value} (G : Gd Z a0) (i0 : Int32) (i1 : Int32) (i2 : Int32) (h : Heap) :
    CtW tables_1 l Z EL1 mt_law room_1 #[(.int i0), (.int i1), (.int i2)] h [] (fun v _ => v = some (.int 1)) := by
  refine Ct.of_wp pl_law G.2.1 (Ls := #[.val (.int i0), .val (.int i1), .val (.int i2), .unset, .unset, .unset, .unset, .unset, .unset, .unset, .unset, .unset, .unset, .unset, .unset, .unset, .unset, .unset, .unset, .unset]) rfl ?_
  obtain ⟨ar, har⟩ : ∃ a, a = h.size := ⟨_, rfl⟩
  have r66 : ∀ f3 f4 f5 f6 f7 : Int32, Wp l Z EL1 mt_law room_1 h [] 0 0 66 #[.val (.int i0), .val (.int i1), .val (.int i2), .val (.int f3), .val (.int f4), .val (.int f5), .val (.int f6), .val (.int f7), .unset, .unset, .unset, .unset, .unset, .unset, .unset, .unset, .unset, .unset, .unset, .unset] [] (fun v _ => v = some (.int 1)) := by
    intro f3 f4 f5 f6 f7
    refine Wp.run ok_law 7 74 #[.val (.int i0), .val (.int i1), .val (.int i2), .val (.int f3), .val (.int f4), .val (.int f5), .val (.int f6), .val (.int f7), .val (.int ((ush i0 (5 : Int32)) &&& (3 : Int32))), .unset, .unset, .unset, .unset, .unset, .unset, .unset, .unset, .unset, .unset, .unset] [(.int i1)] rfl ?_
    refine Wp.ldcI ok_law (G.1 _ (List.mem_of_getElem? (i := 0) rfl)) rfl ?_
    refine Wp.run ok_law 3 80 #[.val (.int i0), .val (.int i1), .val (.int i2), .val (.int f3), .val (.int f4), .val (.int f5), .val (.int f6), .val (.int f7), .val (.int ((ush i0 (5 : Int32)) &&& (3 : Int32))), .val (.int (i1 &&& (2147483647 : Int32))), .unset, .unset, .unset, .unset, .unset, .unset, .unset, .unset, .unset, .unset] [(.int i2)] rfl ?_
    refine Wp.ldcI ok_law (G.1 _ (List.mem_of_getElem? (i := 0) rfl)) rfl ?_
    refine Wp.run ok_law 3 87 #[.val (.int i0), .val (.int i1), .val (.int i2), .val (.int f3), .val (.int f4), .val (.int f5), .val (.int f6), .val (.int f7), .val (.int ((ush i0 (5 : Int32)) &&& (3 : Int32))), .val (.int (i1 &&& (2147483647 : Int32))), .val (.int (i2 &&& (2147483647 : Int32))), .unset, .unset, .unset, .unset, .unset, .unset, .unset, .unset, .unset] [(.int f4)] rfl ?_
    obtain ⟨m1, q1, e1⟩ := mod_n i1 (d := 9) (by decide) (by decide)
    obtain ⟨m2, q2, e2⟩ := mod_n i1 (d := 10) (by decide) (by decide)
    obtain ⟨m3, q3, e3⟩ := divmod i1
    obtain ⟨m4, q4, e4⟩ := mod_n i2 (d := 10) (by decide) (by decide)
    obtain ⟨m5, q5, e5⟩ := divmod i2
    have r111 : ∀ d1 : Int32, Dg d1 → Wp l Z EL1 mt_law room_1 h [] 0 0 111 #[.val (.int i0), .val (.int i1), .val (.int i2), .val (.int f3), .val (.int f4), .val (.int f5), .val (.int f6), .val (.int f7), .val (.int ((ush i0 (5 : Int32)) &&& (3 : Int32))), .val (.int (i1 &&& (2147483647 : Int32))), .val (.int (i2 &&& (2147483647 : Int32))), .unset, .unset, .unset, .unset, .unset, .unset, .unset, .unset, .unset] [(.int d1)] (fun v _ => v = some (.int 1)) := by
      intro d1 D1
      refine Wp.run ok_law 4 119 #[.val (.int i0), .val (.int i1), .val (.int i2), .val (.int f3), .val (.int f4), .val (.int f5), .val (.int f6), .val (.int f7), .val (.int ((ush i0 (5 : Int32)) &&& (3 : Int32))), .val (.int (i1 &&& (2147483647 : Int32))), .val (.int (i2 &&& (2147483647 : Int32))), .val (.int d1), .unset, .unset, .unset, .unset, .unset, .unset, .unset, .unset] [(.int (10 : Int32)), (.int (i1 &&& (2147483647 : Int32))), (.int (48 : Int32))] rfl ?_
      refine Wp.idiv ok_law rfl rfl (by decide) ?_
      refine Wp.run ok_law 1 122 #[.val (.int i0), .val (.int i1), .val (.int i2), .val (.int f3), .val (.int f4), .val (.int f5), .val (.int f6), .val (.int f7), .val (.int ((ush i0 (5 : Int32)) &&& (3 : Int32))), .val (.int (i1 &&& (2147483647 : Int32))), .val (.int (i2 &&& (2147483647 : Int32))), .val (.int d1), .unset, .unset, .unset, .unset, .unset, .unset, .unset, .unset] [(.int (10 : Int32)), (.int ((i1 &&& (2147483647 : Int32)) / (10 : Int32))), (.int (48 : Int32))] rfl ?_
      refine Wp.irem ok_law rfl rfl (by decide) ?_
      refine Wp.run ok_law 1 124 #[.val (.int i0), .val (.int i1), .val (.int i2), .val (.int f3), .val (.int f4), .val (.int f5), .val (.int f6), .val (.int f7), .val (.int ((ush i0 (5 : Int32)) &&& (3 : Int32))), .val (.int (i1 &&& (2147483647 : Int32))), .val (.int (i2 &&& (2147483647 : Int32))), .val (.int d1), .unset, .unset, .unset, .unset, .unset, .unset, .unset, .unset] [(.int ((48 : Int32) + (((i1 &&& (2147483647 : Int32)) / (10 : Int32)) % (10 : Int32))))] rfl ?_
      have end2 : (48 : Int32) + (((i1 &&& (2147483647 : Int32)) / (10 : Int32)) % (10 : Int32)) = 48 + Int32.ofNat m3 := by rw [show (i1 &&& (2147483647 : Int32)) / (10 : Int32) % (10 : Int32) = Int32.ofNat m3 from e3]
      obtain ⟨d2, Ed2, Dd2⟩ : ∃ c, c16 (48 + Int32.ofNat m3) = c ∧ Dg c := ⟨_, rfl, by rw [c16_lat (dig q3).lat]; exact dig q3⟩
      refine Wp.at #[.val (.int i0), .val (.int i1), .val (.int i2), .val (.int f3), .val (.int f4), .val (.int f5), .val (.int f6), .val (.int f7), .val (.int ((ush i0 (5 : Int32)) &&& (3 : Int32))), .val (.int (i1 &&& (2147483647 : Int32))), .val (.int (i2 &&& (2147483647 : Int32))), .val (.int d1), .unset, .unset, .unset, .unset, .unset, .unset, .unset, .unset] [(.int (48 + Int32.ofNat m3))] ⟨rfl, (by rw [end2] <;> rfl)⟩ ?_
      refine Wp.run ok_law 1 125 #[.val (.int i0), .val (.int i1), .val (.int i2), .val (.int f3), .val (.int f4), .val (.int f5), .val (.int f6), .val (.int f7), .val (.int ((ush i0 (5 : Int32)) &&& (3 : Int32))), .val (.int (i1 &&& (2147483647 : Int32))), .val (.int (i2 &&& (2147483647 : Int32))), .val (.int d1), .unset, .unset, .unset, .unset, .unset, .unset, .unset, .unset] [(.int (c16 (48 + Int32.ofNat m3)))] rfl ?_
      refine Wp.at #[.val (.int i0), .val (.int i1), .val (.int i2), .val (.int f3), .val (.int f4), .val (.int f5), .val (.int f6), .val (.int f7), .val (.int ((ush i0 (5 : Int32)) &&& (3 : Int32))), .val (.int (i1 &&& (2147483647 : Int32))), .val (.int (i2 &&& (2147483647 : Int32))), .val (.int d1), .unset, .unset, .unset, .unset, .unset, .unset, .unset, .unset] [(.int d2)] ⟨rfl, (by rw [Ed2] <;> rfl)⟩ ?_
      refine Wp.run ok_law 4 133 #[.val (.int i0), .val (.int i1), .val (.int i2), .val (.int f3), .val (.int f4), .val (.int f5), .val (.int f6), .val (.int f7), .val (.int ((ush i0 (5 : Int32)) &&& (3 : Int32))), .val (.int (i1 &&& (2147483647 : Int32))), .val (.int (i2 &&& (2147483647 : Int32))), .val (.int d1), .val (.int d2), .unset, .unset, .unset, .unset, .unset, .unset, .unset] [(.int (10 : Int32)), (.int (i2 &&& (2147483647 : Int32))), (.int (48 : Int32))] rfl ?_
      refine Wp.irem ok_law rfl rfl (by decide) ?_
      refine Wp.run ok_law 1 135 #[.val (.int i0), .val (.int i1), .val (.int i2), .val (.int f3), .val (.int f4), .val (.int f5), .val (.int f6), .val (.int f7), .val (.int ((ush i0 (5 : Int32)) &&& (3 : Int32))), .val (.int (i1 &&& (2147483647 : Int32))), .val (.int (i2 &&& (2147483647 : Int32))), .val (.int d1), .val (.int d2), .unset, .unset, .unset, .unset, .unset, .unset, .unset] [(.int ((48 : Int32) + ((i2 &&& (2147483647 : Int32)) % (10 : Int32))))] rfl ?_
      have end3 : (48 : Int32) + ((i2 &&& (2147483647 : Int32)) % (10 : Int32)) = 48 + Int32.ofNat m4 := by rw [show (i2 &&& (2147483647 : Int32)) % (10 : Int32) = Int32.ofNat m4 from e4]
      obtain ⟨d3, Ed3, Dd3⟩ : ∃ c, c16 (48 + Int32.ofNat m4) = c ∧ Dg c := ⟨_, rfl, by rw [c16_lat (dig q4).lat]; exact dig q4⟩
      refine Wp.at #[.val (.int i0), .val (.int i1), .val (.int i2), .val (.int f3), .val (.int f4), .val (.int f5), .val (.int f6), .val (.int f7), .val (.int ((ush i0 (5 : Int32)) &&& (3 : Int32))), .val (.int (i1 &&& (2147483647 : Int32))), .val (.int (i2 &&& (2147483647 : Int32))), .val (.int d1), .val (.int d2), .unset, .unset, .unset, .unset, .unset, .unset, .unset] [(.int (48 + Int32.ofNat m4))] ⟨rfl, (by rw [end3] <;> rfl)⟩ ?_
      refine Wp.run ok_law 1 136 #[.val (.int i0), .val (.int i1), .val (.int i2), .val (.int f3), .val (.int f4), .val (.int f5), .val (.int f6), .val (.int f7), .val (.int ((ush i0 (5 : Int32)) &&& (3 : Int32))), .val (.int (i1 &&& (2147483647 : Int32))), .val (.int (i2 &&& (2147483647 : Int32))), .val (.int d1), .val (.int d2), .unset, .unset, .unset, .unset, .unset, .unset, .unset] [(.int (c16 (48 + Int32.ofNat m4)))] rfl ?_
      refine Wp.at #[.val (.int i0), .val (.int i1), .val (.int i2), .val (.int f3), .val (.int f4), .val (.int f5), .val (.int f6), .val (.int f7), .val (.int ((ush i0 (5 : Int32)) &&& (3 : Int32))), .val (.int (i1 &&& (2147483647 : Int32))), .val (.int (i2 &&& (2147483647 : Int32))), .val (.int d1), .val (.int d2), .unset, .unset, .unset, .unset, .unset, .unset, .unset] [(.int d3)] ⟨rfl, (by rw [Ed3] <;> rfl)⟩ ?_
      refine Wp.run ok_law 4 144 #[.val (.int i0), .val (.int i1), .val (.int i2), .val (.int f3), .val (.int f4), .val (.int f5), .val (.int f6), .val (.int f7), .val (.int ((ush i0 (5 : Int32)) &&& (3 : Int32))), .val (.int (i1 &&& (2147483647 : Int32))), .val (.int (i2 &&& (2147483647 : Int32))), .val (.int d1), .val (.int d2), .val (.int d3), .unset, .unset, .unset, .unset, .unset, .unset] [(.int (10 : Int32)), (.int (i2 &&& (2147483647 : Int32))), (.int (48 : Int32))] rfl ?_
      refine Wp.idiv ok_law rfl rfl (by decide) ?_
      refine Wp.run ok_law 1 147 #[.val (.int i0), .val (.int i1), .val (.int i2), .val (.int f3), .val (.int f4), .val (.int f5), .val (.int f6), .val (.int f7), .val (.int ((ush i0 (5 : Int32)) &&& (3 : Int32))), .val (.int (i1 &&& (2147483647 : Int32))), .val (.int (i2 &&& (2147483647 : Int32))), .val (.int d1), .val (.int d2), .val (.int d3), .unset, .unset, .unset, .unset, .unset, .unset] [(.int (10 : Int32)), (.int ((i2 &&& (2147483647 : Int32)) / (10 : Int32))), (.int (48 : Int32))] rfl ?_
      refine Wp.irem ok_law rfl rfl (by decide) ?_
      refine Wp.run ok_law 1 149 #[.val (.int i0), .val (.int i1), .val (.int i2), .val (.int f3), .val (.int f4), .val (.int f5), .val (.int f6), .val (.int f7), .val (.int ((ush i0 (5 : Int32)) &&& (3 : Int32))), .val (.int (i1 &&& (2147483647 : Int32))), .val (.int (i2 &&& (2147483647 : Int32))), .val (.int d1), .val (.int d2), .val (.int d3), .unset, .unset, .unset, .unset, .unset, .unset] [(.int ((48 : Int32) + (((i2 &&& (2147483647 : Int32)) / (10 : Int32)) % (10 : Int32))))] rfl ?_
      have end4 : (48 : Int32) + (((i2 &&& (2147483647 : Int32)) / (10 : Int32)) % (10 : Int32)) = 48 + Int32.ofNat m5 := by rw [show (i2 &&& (2147483647 : Int32)) / (10 : Int32) % (10 : Int32) = Int32.ofNat m5 from e5]
      obtain ⟨d4, Ed4, Dd4⟩ : ∃ c, c16 (48 + Int32.ofNat m5) = c ∧ Dg c := ⟨_, rfl, by rw [c16_lat (dig q5).lat]; exact dig q5⟩
      refine Wp.at #[.val (.int i0), .val (.int i1), .val (.int i2), .val (.int f3), .val (.int f4), .val (.int f5), .val (.int f6), .val (.int f7), .val (.int ((ush i0 (5 : Int32)) &&& (3 : Int32))), .val (.int (i1 &&& (2147483647 : Int32))), .val (.int (i2 &&& (2147483647 : Int32))), .val (.int d1), .val (.int d2), .val (.int d3), .unset, .unset, .unset, .unset, .unset, .unset] [(.int (48 + Int32.ofNat m5))] ⟨rfl, (by rw [end4] <;> rfl)⟩ ?_
      refine Wp.run ok_law 1 150 #[.val (.int i0), .val (.int i1), .val (.int i2), .val (.int f3), .val (.int f4), .val (.int f5), .val (.int f6), .val (.int f7), .val (.int ((ush i0 (5 : Int32)) &&& (3 : Int32))), .val (.int (i1 &&& (2147483647 : Int32))), .val (.int (i2 &&& (2147483647 : Int32))), .val (.int d1), .val (.int d2), .val (.int d3), .unset, .unset, .unset, .unset, .unset, .unset] [(.int (c16 (48 + Int32.ofNat m5)))] rfl ?_
      refine Wp.at #[.val (.int i0), .val (.int i1), .val (.int i2), .val (.int f3), .val (.int f4), .val (.int f5), .val (.int f6), .val (.int f7), .val (.int ((ush i0 (5 : Int32)) &&& (3 : Int32))), .val (.int (i1 &&& (2147483647 : Int32))), .val (.int (i2 &&& (2147483647 : Int32))), .val (.int d1), .val (.int d2), .val (.int d3), .unset, .unset, .unset, .unset, .unset, .unset] [(.int d4)] ⟨rfl, (by rw [Ed4] <;> rfl)⟩ ?_
      refine Wp.run ok_law 2 154 #[.val (.int i0), .val (.int i1), .val (.int i2), .val (.int f3), .val (.int f4), .val (.int f5), .val (.int f6), .val (.int f7), .val (.int ((ush i0 (5 : Int32)) &&& (3 : Int32))), .val (.int (i1 &&& (2147483647 : Int32))), .val (.int (i2 &&& (2147483647 : Int32))), .val (.int d1), .val (.int d2), .val (.int d3), .val (.int d4), .unset, .unset, .unset, .unset, .unset] [(.int (8 : Int32))] rfl ?_
      refine Wp.newP ok_law (len := 8) (cap := 8) (G.1 _ (List.mem_of_getElem? (i := 1) rfl)) rfl rfl rfl (Nat.le_of_ble_eq_true rfl) (Nat.le_of_ble_eq_true rfl) (Nat.le_of_ble_eq_true rfl) (Nat.le_of_ble_eq_true rfl) ?_
      intro h0 E0 A0
      have B0 : Ar Z h0 h.size .char ((Bf []).map Value.int) := A0
      refine Wp.run ok_law 2 159 #[.val (.int i0), .val (.int i1), .val (.int i2), .val (.int f3), .val (.int f4), .val (.int f5), .val (.int f6), .val (.int f7), .val (.int ((ush i0 (5 : Int32)) &&& (3 : Int32))), .val (.int (i1 &&& (2147483647 : Int32))), .val (.int (i2 &&& (2147483647 : Int32))), .val (.int d1), .val (.int d2), .val (.int d3), .val (.int d4), .val (.ref h.size), .unset, .unset, .unset, .unset] [(.int (0 : Int32))] rfl ?_
      have r295 : ∀ (h1 : Heap) (ps ng ip dp ep : List Int32), ps = ng ++ ip ++ dp ++ ep → Ng ng → Ip d1 d2 ip → Dp f5 d3 dp → Ep f6 d4 ep → Ar Z h1 h.size .char ((Bf ps).map Value.int) → Wp l Z EL1 mt_law room_1 h1 [h.size] 1 8 295 #[.val (.int i0), .val (.int i1), .val (.int i2), .val (.int f3), .val (.int f4), .val (.int f5), .val (.int f6), .val (.int f7), .val (.int ((ush i0 (5 : Int32)) &&& (3 : Int32))), .val (.int (i1 &&& (2147483647 : Int32))), .val (.int (i2 &&& (2147483647 : Int32))), .val (.int d1), .val (.int d2), .val (.int d3), .val (.int d4), .val (.ref h.size), .val (.int (Int32.ofNat ps.length)), .unset, .unset, .unset] [] (fun v _ => v = some (.int 1)) := by
        intro h1 ps ng ip dp ep hps hng hip hdp hep B1
        obtain ⟨hlat, hl1, hl8, xx, en, st, g, hx, he, hd, hg, hgs, hg1, hsl, hiff⟩ := shape D1 Dd2 Dd3 Dd4 hng hip hdp hep hps
        obtain ⟨x0, x1, x2, x3, x4, x5, x6, x7, hxs⟩ := eight (xs := Bf ps) (by simp; omega)
        have hl2 : Lat (Bf ps) := fun c hc => by
          rcases List.mem_append.mp hc with q | q
          · exact hlat c q
          · rw [(List.mem_replicate.mp q).2]; decide
        have htk : (Bf ps).take ps.length = ps := List.take_left
        rw [hxs] at B1 hl2 htk
        refine Wp.run ok_law 2 299 #[.val (.int i0), .val (.int i1), .val (.int i2), .val (.int f3), .val (.int f4), .val (.int f5), .val (.int f6), .val (.int f7), .val (.int ((ush i0 (5 : Int32)) &&& (3 : Int32))), .val (.int (i1 &&& (2147483647 : Int32))), .val (.int (i2 &&& (2147483647 : Int32))), .val (.int d1), .val (.int d2), .val (.int d3), .val (.int d4), .val (.ref h.size), .val (.int (Int32.ofNat ps.length)), .unset, .unset, .unset] [(.int (Int32.ofNat ps.length)), (.ref h.size)] rfl ?_
        refine Wp.callS ok_law (argsL := [(.ref h.size), (.int (Int32.ofNat ps.length))]) (rest := []) (ct_cut G (k := ps.length) hl1 hl8 (hl2.at (i := 0) rfl) (hl2.at (i := 1) rfl) (hl2.at (i := 2) rfl) (hl2.at (i := 3) rfl) (hl2.at (i := 4) rfl) (hl2.at (i := 5) rfl) (hl2.at (i := 6) rfl) (hl2.at (i := 7) rfl) h1 B1) G.2.1 (G.1 _ (List.mem_of_getElem? (i := 2) rfl)) (G.1 _ (List.mem_of_getElem? (i := 3) rfl)) (G.1 _ (List.mem_of_getElem? (i := 4) rfl)) (G.1 _ (List.mem_of_getElem? (i := 5) rfl)) rfl rfl (by decide) pd_cut rfl rfl (Nat.le_of_ble_eq_true rfl) (Nat.le_of_ble_eq_true rfl) (Nat.le_of_ble_eq_true rfl) (Nat.le_of_ble_eq_true rfl) all0 ?_
        rintro _ h2 ⟨s, rfl, E2, S2⟩ -
        rw [htk] at S2
        refine Wp.run ok_law 2 306 #[.val (.int i0), .val (.int i1), .val (.int i2), .val (.int f3), .val (.int f4), .val (.int f5), .val (.int f6), .val (.int f7), .val (.int ((ush i0 (5 : Int32)) &&& (3 : Int32))), .val (.int (i1 &&& (2147483647 : Int32))), .val (.int (i2 &&& (2147483647 : Int32))), .val (.int d1), .val (.int d2), .val (.int d3), .val (.int d4), .val (.ref h.size), .val (.int (Int32.ofNat ps.length)), .val (.ref s), .unset, .unset] [(.ref s)] rfl ?_
        refine Wp.callS ok_law (argsL := [(.ref s)]) (rest := []) (ct_nof G (by omega) hx he hd hg hgs h2 S2) G.2.1 (G.1 _ (List.mem_of_getElem? (i := 35) rfl)) (G.1 _ (List.mem_of_getElem? (i := 36) rfl)) (G.1 _ (List.mem_of_getElem? (i := 37) rfl)) (G.1 _ (List.mem_of_getElem? (i := 38) rfl)) rfl rfl (by decide) pd_nof rfl rfl (Nat.le_of_ble_eq_true rfl) (Nat.le_of_ble_eq_true rfl) (Nat.le_of_ble_eq_true rfl) (Nat.le_of_ble_eq_true rfl) all0 ?_
        rintro _ h3 ⟨o, s2, rfl, E3, X3, F1, F2, F3, S3, S4⟩ -
        refine Wp.run ok_law 2 313 #[.val (.int i0), .val (.int i1), .val (.int i2), .val (.int f3), .val (.int f4), .val (.int f5), .val (.int f6), .val (.int f7), .val (.int ((ush i0 (5 : Int32)) &&& (3 : Int32))), .val (.int (i1 &&& (2147483647 : Int32))), .val (.int (i2 &&& (2147483647 : Int32))), .val (.int d1), .val (.int d2), .val (.int d3), .val (.int d4), .val (.ref h.size), .val (.int (Int32.ofNat ps.length)), .val (.ref s), .val (.ref o), .unset] [(.int f5)] rfl ?_
        refine Wp.if0 ok_law 325 rfl rfl (by decide) (by decide) (fun hz5 => ?_) (fun hz5 => ?_)
        · replace hz5 : ¬ f5 = (0 : Int32) := hz5
          refine Wp.run ok_law 3 330 #[.val (.int i0), .val (.int i1), .val (.int i2), .val (.int f3), .val (.int f4), .val (.int f5), .val (.int f6), .val (.int f7), .val (.int ((ush i0 (5 : Int32)) &&& (3 : Int32))), .val (.int (i1 &&& (2147483647 : Int32))), .val (.int (i2 &&& (2147483647 : Int32))), .val (.int d1), .val (.int d2), .val (.int d3), .val (.int d4), .val (.ref h.size), .val (.int (Int32.ofNat ps.length)), .val (.ref s), .val (.ref o), .val (.int (0 : Int32))] [(.ref o)] rfl ?_
          refine Wp.callV ok_law (a := o) (argsL := []) (rest := []) (ct_isi G hg1 (by simp; omega) h3 F1 F2 F3 S3 S4) X3 G.2.1 (G.1 _ (List.mem_of_getElem? (i := 136) rfl)) (G.1 _ (List.mem_of_getElem? (i := 137) rfl)) (G.1 _ (List.mem_of_getElem? (i := 139) rfl)) (G.1 _ (List.mem_of_getElem? (i := 138) rfl)) (G.1 _ (List.mem_of_getElem? (i := 37) rfl)) (G.1 _ (List.mem_of_getElem? (i := 140) rfl)) rfl rfl (by decide) pd_isi rfl rfl (Nat.le_of_ble_eq_true rfl) (Nat.le_of_ble_eq_true rfl) (Nat.le_of_ble_eq_true rfl) (Nat.le_of_ble_eq_true rfl) all0 ?_
          rintro _ _ ⟨rfl, rfl⟩ -
          have hlen : g + ((ps.drop g).take (st - g)).length = st := by rw [List.length_take, List.length_drop]; omega
          refine Wp.at #[.val (.int i0), .val (.int i1), .val (.int i2), .val (.int f3), .val (.int f4), .val (.int f5), .val (.int f6), .val (.int f7), .val (.int ((ush i0 (5 : Int32)) &&& (3 : Int32))), .val (.int (i1 &&& (2147483647 : Int32))), .val (.int (i2 &&& (2147483647 : Int32))), .val (.int d1), .val (.int d2), .val (.int d3), .val (.int d4), .val (.ref h.size), .val (.int (Int32.ofNat ps.length)), .val (.ref s), .val (.ref o), .val (.int (0 : Int32))] [(.int 0)] ⟨rfl, (by rw [hlen, if_neg (fun z => hz5 (hiff.mp z.symm).1)] <;> rfl)⟩ ?_
          refine Wp.run ok_law 1 335 #[.val (.int i0), .val (.int i1), .val (.int i2), .val (.int f3), .val (.int f4), .val (.int f5), .val (.int f6), .val (.int f7), .val (.int ((ush i0 (5 : Int32)) &&& (3 : Int32))), .val (.int (i1 &&& (2147483647 : Int32))), .val (.int (i2 &&& (2147483647 : Int32))), .val (.int d1), .val (.int d2), .val (.int d3), .val (.int d4), .val (.ref h.size), .val (.int (Int32.ofNat ps.length)), .val (.ref s), .val (.ref o), .val (.int (0 : Int32))] [(.int (0 : Int32)), (.int 0)] rfl ?_
          refine Wp.icmpF ok_law rfl rfl (show 0 = (0 : Int32) from rfl) ?_
          refine Wp.run ok_law 2 343 #[.val (.int i0), .val (.int i1), .val (.int i2), .val (.int f3), .val (.int f4), .val (.int f5), .val (.int f6), .val (.int f7), .val (.int ((ush i0 (5 : Int32)) &&& (3 : Int32))), .val (.int (i1 &&& (2147483647 : Int32))), .val (.int (i2 &&& (2147483647 : Int32))), .val (.int d1), .val (.int d2), .val (.int d3), .val (.int d4), .val (.ref h.size), .val (.int (Int32.ofNat ps.length)), .val (.ref s), .val (.ref o), .val (.int (0 : Int32))] [(.int (1 : Int32))] rfl ?_
          exact Wp.retI ok_law (t := .boolean) rfl (by decide) rfl rfl rfl rfl
        · replace hz5 : f5 = (0 : Int32) := hz5
          refine Wp.run ok_law 1 318 #[.val (.int i0), .val (.int i1), .val (.int i2), .val (.int f3), .val (.int f4), .val (.int f5), .val (.int f6), .val (.int f7), .val (.int ((ush i0 (5 : Int32)) &&& (3 : Int32))), .val (.int (i1 &&& (2147483647 : Int32))), .val (.int (i2 &&& (2147483647 : Int32))), .val (.int d1), .val (.int d2), .val (.int d3), .val (.int d4), .val (.ref h.size), .val (.int (Int32.ofNat ps.length)), .val (.ref s), .val (.ref o), .unset] [(.int f6)] rfl ?_
          refine Wp.if0 ok_law 325 rfl rfl (by decide) (by decide) (fun hz6 => ?_) (fun hz6 => ?_)
          · replace hz6 : ¬ f6 = (0 : Int32) := hz6
            refine Wp.run ok_law 3 330 #[.val (.int i0), .val (.int i1), .val (.int i2), .val (.int f3), .val (.int f4), .val (.int f5), .val (.int f6), .val (.int f7), .val (.int ((ush i0 (5 : Int32)) &&& (3 : Int32))), .val (.int (i1 &&& (2147483647 : Int32))), .val (.int (i2 &&& (2147483647 : Int32))), .val (.int d1), .val (.int d2), .val (.int d3), .val (.int d4), .val (.ref h.size), .val (.int (Int32.ofNat ps.length)), .val (.ref s), .val (.ref o), .val (.int (0 : Int32))] [(.ref o)] rfl ?_
            refine Wp.callV ok_law (a := o) (argsL := []) (rest := []) (ct_isi G hg1 (by simp; omega) h3 F1 F2 F3 S3 S4) X3 G.2.1 (G.1 _ (List.mem_of_getElem? (i := 136) rfl)) (G.1 _ (List.mem_of_getElem? (i := 137) rfl)) (G.1 _ (List.mem_of_getElem? (i := 139) rfl)) (G.1 _ (List.mem_of_getElem? (i := 138) rfl)) (G.1 _ (List.mem_of_getElem? (i := 37) rfl)) (G.1 _ (List.mem_of_getElem? (i := 140) rfl)) rfl rfl (by decide) pd_isi rfl rfl (Nat.le_of_ble_eq_true rfl) (Nat.le_of_ble_eq_true rfl) (Nat.le_of_ble_eq_true rfl) (Nat.le_of_ble_eq_true rfl) all0 ?_
            rintro _ _ ⟨rfl, rfl⟩ -
            have hlen : g + ((ps.drop g).take (st - g)).length = st := by rw [List.length_take, List.length_drop]; omega
            refine Wp.at #[.val (.int i0), .val (.int i1), .val (.int i2), .val (.int f3), .val (.int f4), .val (.int f5), .val (.int f6), .val (.int f7), .val (.int ((ush i0 (5 : Int32)) &&& (3 : Int32))), .val (.int (i1 &&& (2147483647 : Int32))), .val (.int (i2 &&& (2147483647 : Int32))), .val (.int d1), .val (.int d2), .val (.int d3), .val (.int d4), .val (.ref h.size), .val (.int (Int32.ofNat ps.length)), .val (.ref s), .val (.ref o), .val (.int (0 : Int32))] [(.int 0)] ⟨rfl, (by rw [hlen, if_neg (fun z => hz6 (hiff.mp z.symm).2)] <;> rfl)⟩ ?_
            refine Wp.run ok_law 1 335 #[.val (.int i0), .val (.int i1), .val (.int i2), .val (.int f3), .val (.int f4), .val (.int f5), .val (.int f6), .val (.int f7), .val (.int ((ush i0 (5 : Int32)) &&& (3 : Int32))), .val (.int (i1 &&& (2147483647 : Int32))), .val (.int (i2 &&& (2147483647 : Int32))), .val (.int d1), .val (.int d2), .val (.int d3), .val (.int d4), .val (.ref h.size), .val (.int (Int32.ofNat ps.length)), .val (.ref s), .val (.ref o), .val (.int (0 : Int32))] [(.int (0 : Int32)), (.int 0)] rfl ?_
            refine Wp.icmpF ok_law rfl rfl (show 0 = (0 : Int32) from rfl) ?_
            refine Wp.run ok_law 2 343 #[.val (.int i0), .val (.int i1), .val (.int i2), .val (.int f3), .val (.int f4), .val (.int f5), .val (.int f6), .val (.int f7), .val (.int ((ush i0 (5 : Int32)) &&& (3 : Int32))), .val (.int (i1 &&& (2147483647 : Int32))), .val (.int (i2 &&& (2147483647 : Int32))), .val (.int d1), .val (.int d2), .val (.int d3), .val (.int d4), .val (.ref h.size), .val (.int (Int32.ofNat ps.length)), .val (.ref s), .val (.ref o), .val (.int (0 : Int32))] [(.int (1 : Int32))] rfl ?_
            exact Wp.retI ok_law (t := .boolean) rfl (by decide) rfl rfl rfl rfl
          · replace hz6 : f6 = (0 : Int32) := hz6
            refine Wp.run ok_law 4 330 #[.val (.int i0), .val (.int i1), .val (.int i2), .val (.int f3), .val (.int f4), .val (.int f5), .val (.int f6), .val (.int f7), .val (.int ((ush i0 (5 : Int32)) &&& (3 : Int32))), .val (.int (i1 &&& (2147483647 : Int32))), .val (.int (i2 &&& (2147483647 : Int32))), .val (.int d1), .val (.int d2), .val (.int d3), .val (.int d4), .val (.ref h.size), .val (.int (Int32.ofNat ps.length)), .val (.ref s), .val (.ref o), .val (.int (1 : Int32))] [(.ref o)] rfl ?_
            refine Wp.callV ok_law (a := o) (argsL := []) (rest := []) (ct_isi G hg1 (by simp; omega) h3 F1 F2 F3 S3 S4) X3 G.2.1 (G.1 _ (List.mem_of_getElem? (i := 136) rfl)) (G.1 _ (List.mem_of_getElem? (i := 137) rfl)) (G.1 _ (List.mem_of_getElem? (i := 139) rfl)) (G.1 _ (List.mem_of_getElem? (i := 138) rfl)) (G.1 _ (List.mem_of_getElem? (i := 37) rfl)) (G.1 _ (List.mem_of_getElem? (i := 140) rfl)) rfl rfl (by decide) pd_isi rfl rfl (Nat.le_of_ble_eq_true rfl) (Nat.le_of_ble_eq_true rfl) (Nat.le_of_ble_eq_true rfl) (Nat.le_of_ble_eq_true rfl) all0 ?_
            rintro _ _ ⟨rfl, rfl⟩ -
            have hlen : g + ((ps.drop g).take (st - g)).length = st := by rw [List.length_take, List.length_drop]; omega
            refine Wp.at #[.val (.int i0), .val (.int i1), .val (.int i2), .val (.int f3), .val (.int f4), .val (.int f5), .val (.int f6), .val (.int f7), .val (.int ((ush i0 (5 : Int32)) &&& (3 : Int32))), .val (.int (i1 &&& (2147483647 : Int32))), .val (.int (i2 &&& (2147483647 : Int32))), .val (.int d1), .val (.int d2), .val (.int d3), .val (.int d4), .val (.ref h.size), .val (.int (Int32.ofNat ps.length)), .val (.ref s), .val (.ref o), .val (.int (1 : Int32))] [(.int 1)] ⟨rfl, (by rw [hlen, if_pos (hiff.mpr ⟨hz5, hz6⟩).symm] <;> rfl)⟩ ?_
            refine Wp.run ok_law 1 335 #[.val (.int i0), .val (.int i1), .val (.int i2), .val (.int f3), .val (.int f4), .val (.int f5), .val (.int f6), .val (.int f7), .val (.int ((ush i0 (5 : Int32)) &&& (3 : Int32))), .val (.int (i1 &&& (2147483647 : Int32))), .val (.int (i2 &&& (2147483647 : Int32))), .val (.int d1), .val (.int d2), .val (.int d3), .val (.int d4), .val (.ref h.size), .val (.int (Int32.ofNat ps.length)), .val (.ref s), .val (.ref o), .val (.int (1 : Int32))] [(.int (1 : Int32)), (.int 1)] rfl ?_
            refine Wp.icmpF ok_law rfl rfl (show 1 = (1 : Int32) from rfl) ?_
            refine Wp.run ok_law 2 343 #[.val (.int i0), .val (.int i1), .val (.int i2), .val (.int f3), .val (.int f4), .val (.int f5), .val (.int f6), .val (.int f7), .val (.int ((ush i0 (5 : Int32)) &&& (3 : Int32))), .val (.int (i1 &&& (2147483647 : Int32))), .val (.int (i2 &&& (2147483647 : Int32))), .val (.int d1), .val (.int d2), .val (.int d3), .val (.int d4), .val (.ref h.size), .val (.int (Int32.ofNat ps.length)), .val (.ref s), .val (.ref o), .val (.int (1 : Int32))] [(.int (1 : Int32))] rfl ?_
            exact Wp.retI ok_law (t := .boolean) rfl (by decide) rfl rfl rfl rfl
      have r225 : ∀ (h1 : Heap) (ps ng ip dp : List Int32), ps = ng ++ ip ++ dp → Ng ng → Ip d1 d2 ip → Dp f5 d3 dp → Ar Z h1 h.size .char ((Bf ps).map Value.int) → Wp l Z EL1 mt_law room_1 h1 [h.size] 1 8 225 #[.val (.int i0), .val (.int i1), .val (.int i2), .val (.int f3), .val (.int f4), .val (.int f5), .val (.int f6), .val (.int f7), .val (.int ((ush i0 (5 : Int32)) &&& (3 : Int32))), .val (.int (i1 &&& (2147483647 : Int32))), .val (.int (i2 &&& (2147483647 : Int32))), .val (.int d1), .val (.int d2), .val (.int d3), .val (.int d4), .val (.ref h.size), .val (.int (Int32.ofNat ps.length)), .unset, .unset, .unset] [] (fun v _ => v = some (.int 1)) := by
        intro h1 ps ng ip dp hps hng hip hdp B1
        have hl : ps.length ≤ 5 := by
          rw [hps]; rcases hng with rfl | rfl <;> rcases hip with rfl | rfl <;> rcases hdp with ⟨-, rfl⟩ | ⟨-, rfl⟩ <;> simp
        refine Wp.run ok_law 1 227 #[.val (.int i0), .val (.int i1), .val (.int i2), .val (.int f3), .val (.int f4), .val (.int f5), .val (.int f6), .val (.int f7), .val (.int ((ush i0 (5 : Int32)) &&& (3 : Int32))), .val (.int (i1 &&& (2147483647 : Int32))), .val (.int (i2 &&& (2147483647 : Int32))), .val (.int d1), .val (.int d2), .val (.int d3), .val (.int d4), .val (.ref h.size), .val (.int (Int32.ofNat ps.length)), .unset, .unset, .unset] [(.int f6)] rfl ?_
        refine Wp.if0 ok_law 295 rfl rfl (by decide) (by decide) (fun hz6 => ?_) (fun hz6 => ?_)
        · replace hz6 : f6 = (0 : Int32) := hz6
          exact r295 h1 ps ng ip dp [] (by rw [hps, List.append_nil]) hng hip hdp (Or.inl ⟨hz6, rfl⟩) B1
        · replace hz6 : ¬ f6 = (0 : Int32) := hz6
          refine Wp.run ok_law 3 236 #[.val (.int i0), .val (.int i1), .val (.int i2), .val (.int f3), .val (.int f4), .val (.int f5), .val (.int f6), .val (.int f7), .val (.int ((ush i0 (5 : Int32)) &&& (3 : Int32))), .val (.int (i1 &&& (2147483647 : Int32))), .val (.int (i2 &&& (2147483647 : Int32))), .val (.int d1), .val (.int d2), .val (.int d3), .val (.int d4), .val (.ref h.size), .val (.int (Int32.ofNat ps.length)), .unset, .unset, .unset] [(.int f7), (.int (Int32.ofNat ps.length)), (.ref h.size)] rfl ?_
          have r246 : ∀ e : Int32, (e = 101 ∨ e = 69) → Wp l Z EL1 mt_law room_1 h1 [h.size] 1 8 246 #[.val (.int i0), .val (.int i1), .val (.int i2), .val (.int f3), .val (.int f4), .val (.int f5), .val (.int f6), .val (.int f7), .val (.int ((ush i0 (5 : Int32)) &&& (3 : Int32))), .val (.int (i1 &&& (2147483647 : Int32))), .val (.int (i2 &&& (2147483647 : Int32))), .val (.int d1), .val (.int d2), .val (.int d3), .val (.int d4), .val (.ref h.size), .val (.int (Int32.ofNat ps.length)), .unset, .unset, .unset] [(.int e), (.int (Int32.ofNat ps.length)), (.ref h.size)] (fun v _ => v = some (.int 1)) := by
            intro e he
            refine Wp.aput ok_law B1 (List.mem_of_getElem? (i := 0) rfl) (i := ps.length) rfl (by simp <;> omega) rfl (fitc (show 0 ≤ e.toInt ∧ e.toInt ≤ 255 by rcases he with rfl | rfl <;> decide)) rfl rfl rfl ?_
            intro hq1 wq2 Aq3
            have Phq1 : Ar Z hq1 h.size .char ((Bf (ps ++ [e])).map Value.int) := by rw [← put_step (by omega)]; exact Aq3
            refine Wp.run ok_law 1 250 #[.val (.int i0), .val (.int i1), .val (.int i2), .val (.int f3), .val (.int f4), .val (.int f5), .val (.int f6), .val (.int f7), .val (.int ((ush i0 (5 : Int32)) &&& (3 : Int32))), .val (.int (i1 &&& (2147483647 : Int32))), .val (.int (i2 &&& (2147483647 : Int32))), .val (.int d1), .val (.int d2), .val (.int d3), .val (.int d4), .val (.ref h.size), .val (.int ((Int32.ofNat ps.length) + (1 : Int32))), .unset, .unset, .unset] [] rfl ?_
            refine Wp.at #[.val (.int i0), .val (.int i1), .val (.int i2), .val (.int f3), .val (.int f4), .val (.int f5), .val (.int f6), .val (.int f7), .val (.int ((ush i0 (5 : Int32)) &&& (3 : Int32))), .val (.int (i1 &&& (2147483647 : Int32))), .val (.int (i2 &&& (2147483647 : Int32))), .val (.int d1), .val (.int d2), .val (.int d3), .val (.int d4), .val (.ref h.size), .val (.int (Int32.ofNat (ps ++ [e]).length)), .unset, .unset, .unset] [] ⟨(by rw [len_step ps e] <;> rfl), rfl⟩ ?_
            refine Wp.run ok_law 2 253 #[.val (.int i0), .val (.int i1), .val (.int i2), .val (.int f3), .val (.int f4), .val (.int f5), .val (.int f6), .val (.int f7), .val (.int ((ush i0 (5 : Int32)) &&& (3 : Int32))), .val (.int (i1 &&& (2147483647 : Int32))), .val (.int (i2 &&& (2147483647 : Int32))), .val (.int d1), .val (.int d2), .val (.int d3), .val (.int d4), .val (.ref h.size), .val (.int (Int32.ofNat (ps ++ [e]).length)), .unset, .unset, .unset] [(.int (1 : Int32)), (.int ((ush i0 (5 : Int32)) &&& (3 : Int32)))] rfl ?_
            refine Wp.icmp ok_law 269 rfl rfl (by decide) (by decide) (fun hs1 => ?_) (fun hs1 => ?_)
            · replace hs1 : ¬ ((ush i0 (5 : Int32)) &&& (3 : Int32)) = (1 : Int32) := hs1
              refine Wp.run ok_law 2 272 #[.val (.int i0), .val (.int i1), .val (.int i2), .val (.int f3), .val (.int f4), .val (.int f5), .val (.int f6), .val (.int f7), .val (.int ((ush i0 (5 : Int32)) &&& (3 : Int32))), .val (.int (i1 &&& (2147483647 : Int32))), .val (.int (i2 &&& (2147483647 : Int32))), .val (.int d1), .val (.int d2), .val (.int d3), .val (.int d4), .val (.ref h.size), .val (.int (Int32.ofNat (ps ++ [e]).length)), .unset, .unset, .unset] [(.int (2 : Int32)), (.int ((ush i0 (5 : Int32)) &&& (3 : Int32)))] rfl ?_
              refine Wp.icmp ok_law 285 rfl rfl (by decide) (by decide) (fun hs2 => ?_) (fun hs2 => ?_)
              · replace hs2 : ¬ ((ush i0 (5 : Int32)) &&& (3 : Int32)) = (2 : Int32) := hs2
                refine Wp.run ok_law 3 291 #[.val (.int i0), .val (.int i1), .val (.int i2), .val (.int f3), .val (.int f4), .val (.int f5), .val (.int f6), .val (.int f7), .val (.int ((ush i0 (5 : Int32)) &&& (3 : Int32))), .val (.int (i1 &&& (2147483647 : Int32))), .val (.int (i2 &&& (2147483647 : Int32))), .val (.int d1), .val (.int d2), .val (.int d3), .val (.int d4), .val (.ref h.size), .val (.int (Int32.ofNat (ps ++ [e]).length)), .unset, .unset, .unset] [(.int d4), (.int (Int32.ofNat (ps ++ [e]).length)), (.ref h.size)] rfl ?_
                refine Wp.aput ok_law Phq1 (List.mem_of_getElem? (i := 0) rfl) (i := (ps ++ [e]).length) rfl (by simp <;> omega) rfl (fitc Dd4.lat) rfl rfl rfl ?_
                intro hq4 wq5 Aq6
                have Phq4 : Ar Z hq4 h.size .char ((Bf ((ps ++ [e]) ++ [d4])).map Value.int) := by rw [← put_step (by simp; omega)]; exact Aq6
                refine Wp.run ok_law 1 295 #[.val (.int i0), .val (.int i1), .val (.int i2), .val (.int f3), .val (.int f4), .val (.int f5), .val (.int f6), .val (.int f7), .val (.int ((ush i0 (5 : Int32)) &&& (3 : Int32))), .val (.int (i1 &&& (2147483647 : Int32))), .val (.int (i2 &&& (2147483647 : Int32))), .val (.int d1), .val (.int d2), .val (.int d3), .val (.int d4), .val (.ref h.size), .val (.int ((Int32.ofNat (ps ++ [e]).length) + (1 : Int32))), .unset, .unset, .unset] [] rfl ?_
                refine Wp.at #[.val (.int i0), .val (.int i1), .val (.int i2), .val (.int f3), .val (.int f4), .val (.int f5), .val (.int f6), .val (.int f7), .val (.int ((ush i0 (5 : Int32)) &&& (3 : Int32))), .val (.int (i1 &&& (2147483647 : Int32))), .val (.int (i2 &&& (2147483647 : Int32))), .val (.int d1), .val (.int d2), .val (.int d3), .val (.int d4), .val (.ref h.size), .val (.int (Int32.ofNat ((ps ++ [e]) ++ [d4]).length)), .unset, .unset, .unset] [] ⟨(by rw [len_step (ps ++ [e]) d4] <;> rfl), rfl⟩ ?_
                exact r295 hq4 ((ps ++ [e]) ++ [d4]) ng ip dp (e :: ([] ++ [d4])) (by rw [hps]; simp) hng hip hdp (Or.inr ⟨hz6, e, [], he, Or.inl rfl, rfl⟩) Phq4
              · replace hs2 : ((ush i0 (5 : Int32)) &&& (3 : Int32)) = (2 : Int32) := hs2
                refine Wp.run ok_law 3 281 #[.val (.int i0), .val (.int i1), .val (.int i2), .val (.int f3), .val (.int f4), .val (.int f5), .val (.int f6), .val (.int f7), .val (.int ((ush i0 (5 : Int32)) &&& (3 : Int32))), .val (.int (i1 &&& (2147483647 : Int32))), .val (.int (i2 &&& (2147483647 : Int32))), .val (.int d1), .val (.int d2), .val (.int d3), .val (.int d4), .val (.ref h.size), .val (.int (Int32.ofNat (ps ++ [e]).length)), .unset, .unset, .unset] [(.int (45 : Int32)), (.int (Int32.ofNat (ps ++ [e]).length)), (.ref h.size)] rfl ?_
                refine Wp.aput ok_law Phq1 (List.mem_of_getElem? (i := 0) rfl) (i := (ps ++ [e]).length) rfl (by simp <;> omega) rfl (fitc (show 0 ≤ (45 : Int32).toInt ∧ (45 : Int32).toInt ≤ 255 by decide)) rfl rfl rfl ?_
                intro hq7 wq8 Aq9
                have Phq7 : Ar Z hq7 h.size .char ((Bf ((ps ++ [e]) ++ [45])).map Value.int) := by rw [← put_step (by simp; omega)]; exact Aq9
                refine Wp.run ok_law 1 285 #[.val (.int i0), .val (.int i1), .val (.int i2), .val (.int f3), .val (.int f4), .val (.int f5), .val (.int f6), .val (.int f7), .val (.int ((ush i0 (5 : Int32)) &&& (3 : Int32))), .val (.int (i1 &&& (2147483647 : Int32))), .val (.int (i2 &&& (2147483647 : Int32))), .val (.int d1), .val (.int d2), .val (.int d3), .val (.int d4), .val (.ref h.size), .val (.int ((Int32.ofNat (ps ++ [e]).length) + (1 : Int32))), .unset, .unset, .unset] [] rfl ?_
                refine Wp.at #[.val (.int i0), .val (.int i1), .val (.int i2), .val (.int f3), .val (.int f4), .val (.int f5), .val (.int f6), .val (.int f7), .val (.int ((ush i0 (5 : Int32)) &&& (3 : Int32))), .val (.int (i1 &&& (2147483647 : Int32))), .val (.int (i2 &&& (2147483647 : Int32))), .val (.int d1), .val (.int d2), .val (.int d3), .val (.int d4), .val (.ref h.size), .val (.int (Int32.ofNat ((ps ++ [e]) ++ [45]).length)), .unset, .unset, .unset] [] ⟨(by rw [len_step (ps ++ [e]) 45] <;> rfl), rfl⟩ ?_
                refine Wp.run ok_law 3 291 #[.val (.int i0), .val (.int i1), .val (.int i2), .val (.int f3), .val (.int f4), .val (.int f5), .val (.int f6), .val (.int f7), .val (.int ((ush i0 (5 : Int32)) &&& (3 : Int32))), .val (.int (i1 &&& (2147483647 : Int32))), .val (.int (i2 &&& (2147483647 : Int32))), .val (.int d1), .val (.int d2), .val (.int d3), .val (.int d4), .val (.ref h.size), .val (.int (Int32.ofNat ((ps ++ [e]) ++ [45]).length)), .unset, .unset, .unset] [(.int d4), (.int (Int32.ofNat ((ps ++ [e]) ++ [45]).length)), (.ref h.size)] rfl ?_
                refine Wp.aput ok_law Phq7 (List.mem_of_getElem? (i := 0) rfl) (i := ((ps ++ [e]) ++ [45]).length) rfl (by simp <;> omega) rfl (fitc Dd4.lat) rfl rfl rfl ?_
                intro hq10 wq11 Aq12
                have Phq10 : Ar Z hq10 h.size .char ((Bf (((ps ++ [e]) ++ [45]) ++ [d4])).map Value.int) := by rw [← put_step (by simp; omega)]; exact Aq12
                refine Wp.run ok_law 1 295 #[.val (.int i0), .val (.int i1), .val (.int i2), .val (.int f3), .val (.int f4), .val (.int f5), .val (.int f6), .val (.int f7), .val (.int ((ush i0 (5 : Int32)) &&& (3 : Int32))), .val (.int (i1 &&& (2147483647 : Int32))), .val (.int (i2 &&& (2147483647 : Int32))), .val (.int d1), .val (.int d2), .val (.int d3), .val (.int d4), .val (.ref h.size), .val (.int ((Int32.ofNat ((ps ++ [e]) ++ [45]).length) + (1 : Int32))), .unset, .unset, .unset] [] rfl ?_
                refine Wp.at #[.val (.int i0), .val (.int i1), .val (.int i2), .val (.int f3), .val (.int f4), .val (.int f5), .val (.int f6), .val (.int f7), .val (.int ((ush i0 (5 : Int32)) &&& (3 : Int32))), .val (.int (i1 &&& (2147483647 : Int32))), .val (.int (i2 &&& (2147483647 : Int32))), .val (.int d1), .val (.int d2), .val (.int d3), .val (.int d4), .val (.ref h.size), .val (.int (Int32.ofNat (((ps ++ [e]) ++ [45]) ++ [d4]).length)), .unset, .unset, .unset] [] ⟨(by rw [len_step ((ps ++ [e]) ++ [45]) d4] <;> rfl), rfl⟩ ?_
                exact r295 hq10 (((ps ++ [e]) ++ [45]) ++ [d4]) ng ip dp (e :: ([45] ++ [d4])) (by rw [hps]; simp) hng hip hdp (Or.inr ⟨hz6, e, [45], he, Or.inr (Or.inr rfl), rfl⟩) Phq10
            · replace hs1 : ((ush i0 (5 : Int32)) &&& (3 : Int32)) = (1 : Int32) := hs1
              refine Wp.run ok_law 3 262 #[.val (.int i0), .val (.int i1), .val (.int i2), .val (.int f3), .val (.int f4), .val (.int f5), .val (.int f6), .val (.int f7), .val (.int ((ush i0 (5 : Int32)) &&& (3 : Int32))), .val (.int (i1 &&& (2147483647 : Int32))), .val (.int (i2 &&& (2147483647 : Int32))), .val (.int d1), .val (.int d2), .val (.int d3), .val (.int d4), .val (.ref h.size), .val (.int (Int32.ofNat (ps ++ [e]).length)), .unset, .unset, .unset] [(.int (43 : Int32)), (.int (Int32.ofNat (ps ++ [e]).length)), (.ref h.size)] rfl ?_
              refine Wp.aput ok_law Phq1 (List.mem_of_getElem? (i := 0) rfl) (i := (ps ++ [e]).length) rfl (by simp <;> omega) rfl (fitc (show 0 ≤ (43 : Int32).toInt ∧ (43 : Int32).toInt ≤ 255 by decide)) rfl rfl rfl ?_
              intro hq13 wq14 Aq15
              have Phq13 : Ar Z hq13 h.size .char ((Bf ((ps ++ [e]) ++ [43])).map Value.int) := by rw [← put_step (by simp; omega)]; exact Aq15
              refine Wp.run ok_law 2 285 #[.val (.int i0), .val (.int i1), .val (.int i2), .val (.int f3), .val (.int f4), .val (.int f5), .val (.int f6), .val (.int f7), .val (.int ((ush i0 (5 : Int32)) &&& (3 : Int32))), .val (.int (i1 &&& (2147483647 : Int32))), .val (.int (i2 &&& (2147483647 : Int32))), .val (.int d1), .val (.int d2), .val (.int d3), .val (.int d4), .val (.ref h.size), .val (.int ((Int32.ofNat (ps ++ [e]).length) + (1 : Int32))), .unset, .unset, .unset] [] rfl ?_
              refine Wp.at #[.val (.int i0), .val (.int i1), .val (.int i2), .val (.int f3), .val (.int f4), .val (.int f5), .val (.int f6), .val (.int f7), .val (.int ((ush i0 (5 : Int32)) &&& (3 : Int32))), .val (.int (i1 &&& (2147483647 : Int32))), .val (.int (i2 &&& (2147483647 : Int32))), .val (.int d1), .val (.int d2), .val (.int d3), .val (.int d4), .val (.ref h.size), .val (.int (Int32.ofNat ((ps ++ [e]) ++ [43]).length)), .unset, .unset, .unset] [] ⟨(by rw [len_step (ps ++ [e]) 43] <;> rfl), rfl⟩ ?_
              refine Wp.run ok_law 3 291 #[.val (.int i0), .val (.int i1), .val (.int i2), .val (.int f3), .val (.int f4), .val (.int f5), .val (.int f6), .val (.int f7), .val (.int ((ush i0 (5 : Int32)) &&& (3 : Int32))), .val (.int (i1 &&& (2147483647 : Int32))), .val (.int (i2 &&& (2147483647 : Int32))), .val (.int d1), .val (.int d2), .val (.int d3), .val (.int d4), .val (.ref h.size), .val (.int (Int32.ofNat ((ps ++ [e]) ++ [43]).length)), .unset, .unset, .unset] [(.int d4), (.int (Int32.ofNat ((ps ++ [e]) ++ [43]).length)), (.ref h.size)] rfl ?_
              refine Wp.aput ok_law Phq13 (List.mem_of_getElem? (i := 0) rfl) (i := ((ps ++ [e]) ++ [43]).length) rfl (by simp <;> omega) rfl (fitc Dd4.lat) rfl rfl rfl ?_
              intro hq16 wq17 Aq18
              have Phq16 : Ar Z hq16 h.size .char ((Bf (((ps ++ [e]) ++ [43]) ++ [d4])).map Value.int) := by rw [← put_step (by simp; omega)]; exact Aq18
              refine Wp.run ok_law 1 295 #[.val (.int i0), .val (.int i1), .val (.int i2), .val (.int f3), .val (.int f4), .val (.int f5), .val (.int f6), .val (.int f7), .val (.int ((ush i0 (5 : Int32)) &&& (3 : Int32))), .val (.int (i1 &&& (2147483647 : Int32))), .val (.int (i2 &&& (2147483647 : Int32))), .val (.int d1), .val (.int d2), .val (.int d3), .val (.int d4), .val (.ref h.size), .val (.int ((Int32.ofNat ((ps ++ [e]) ++ [43]).length) + (1 : Int32))), .unset, .unset, .unset] [] rfl ?_
              refine Wp.at #[.val (.int i0), .val (.int i1), .val (.int i2), .val (.int f3), .val (.int f4), .val (.int f5), .val (.int f6), .val (.int f7), .val (.int ((ush i0 (5 : Int32)) &&& (3 : Int32))), .val (.int (i1 &&& (2147483647 : Int32))), .val (.int (i2 &&& (2147483647 : Int32))), .val (.int d1), .val (.int d2), .val (.int d3), .val (.int d4), .val (.ref h.size), .val (.int (Int32.ofNat (((ps ++ [e]) ++ [43]) ++ [d4]).length)), .unset, .unset, .unset] [] ⟨(by rw [len_step ((ps ++ [e]) ++ [43]) d4] <;> rfl), rfl⟩ ?_
              exact r295 hq16 (((ps ++ [e]) ++ [43]) ++ [d4]) ng ip dp (e :: ([43] ++ [d4])) (by rw [hps]; simp) hng hip hdp (Or.inr ⟨hz6, e, [43], he, Or.inr (Or.inl rfl), rfl⟩) Phq16
          refine Wp.if0 ok_law 244 rfl rfl (by decide) (by decide) (fun hz7 => ?_) (fun hz7 => ?_)
          · replace hz7 : f7 = (0 : Int32) := hz7
            refine Wp.run ok_law 1 246 #[.val (.int i0), .val (.int i1), .val (.int i2), .val (.int f3), .val (.int f4), .val (.int f5), .val (.int f6), .val (.int f7), .val (.int ((ush i0 (5 : Int32)) &&& (3 : Int32))), .val (.int (i1 &&& (2147483647 : Int32))), .val (.int (i2 &&& (2147483647 : Int32))), .val (.int d1), .val (.int d2), .val (.int d3), .val (.int d4), .val (.ref h.size), .val (.int (Int32.ofNat ps.length)), .unset, .unset, .unset] [(.int (101 : Int32)), (.int (Int32.ofNat ps.length)), (.ref h.size)] rfl ?_
            exact r246 _ (Or.inl rfl)
          · replace hz7 : ¬ f7 = (0 : Int32) := hz7
            refine Wp.run ok_law 2 246 #[.val (.int i0), .val (.int i1), .val (.int i2), .val (.int f3), .val (.int f4), .val (.int f5), .val (.int f6), .val (.int f7), .val (.int ((ush i0 (5 : Int32)) &&& (3 : Int32))), .val (.int (i1 &&& (2147483647 : Int32))), .val (.int (i2 &&& (2147483647 : Int32))), .val (.int d1), .val (.int d2), .val (.int d3), .val (.int d4), .val (.ref h.size), .val (.int (Int32.ofNat ps.length)), .unset, .unset, .unset] [(.int (69 : Int32)), (.int (Int32.ofNat ps.length)), (.ref h.size)] rfl ?_
            exact r246 _ (Or.inr rfl)
      have r200 : ∀ (h1 : Heap) (ps ng ip : List Int32), ps = ng ++ ip → Ng ng → Ip d1 d2 ip → Ar Z h1 h.size .char ((Bf ps).map Value.int) → Wp l Z EL1 mt_law room_1 h1 [h.size] 1 8 200 #[.val (.int i0), .val (.int i1), .val (.int i2), .val (.int f3), .val (.int f4), .val (.int f5), .val (.int f6), .val (.int f7), .val (.int ((ush i0 (5 : Int32)) &&& (3 : Int32))), .val (.int (i1 &&& (2147483647 : Int32))), .val (.int (i2 &&& (2147483647 : Int32))), .val (.int d1), .val (.int d2), .val (.int d3), .val (.int d4), .val (.ref h.size), .val (.int (Int32.ofNat ps.length)), .unset, .unset, .unset] [] (fun v _ => v = some (.int 1)) := by
        intro h1 ps ng ip hps hng hip B1
        have hl : ps.length ≤ 3 := by
          rw [hps]; rcases hng with rfl | rfl <;> rcases hip with rfl | rfl <;> simp
        refine Wp.run ok_law 1 202 #[.val (.int i0), .val (.int i1), .val (.int i2), .val (.int f3), .val (.int f4), .val (.int f5), .val (.int f6), .val (.int f7), .val (.int ((ush i0 (5 : Int32)) &&& (3 : Int32))), .val (.int (i1 &&& (2147483647 : Int32))), .val (.int (i2 &&& (2147483647 : Int32))), .val (.int d1), .val (.int d2), .val (.int d3), .val (.int d4), .val (.ref h.size), .val (.int (Int32.ofNat ps.length)), .unset, .unset, .unset] [(.int f5)] rfl ?_
        refine Wp.if0 ok_law 225 rfl rfl (by decide) (by decide) (fun hz5 => ?_) (fun hz5 => ?_)
        · replace hz5 : f5 = (0 : Int32) := hz5
          exact r225 h1 ps ng ip [] (by rw [hps, List.append_nil]) hng hip (Or.inl ⟨hz5, rfl⟩) B1
        · replace hz5 : ¬ f5 = (0 : Int32) := hz5
          refine Wp.run ok_law 3 211 #[.val (.int i0), .val (.int i1), .val (.int i2), .val (.int f3), .val (.int f4), .val (.int f5), .val (.int f6), .val (.int f7), .val (.int ((ush i0 (5 : Int32)) &&& (3 : Int32))), .val (.int (i1 &&& (2147483647 : Int32))), .val (.int (i2 &&& (2147483647 : Int32))), .val (.int d1), .val (.int d2), .val (.int d3), .val (.int d4), .val (.ref h.size), .val (.int (Int32.ofNat ps.length)), .unset, .unset, .unset] [(.int (46 : Int32)), (.int (Int32.ofNat ps.length)), (.ref h.size)] rfl ?_
          refine Wp.aput ok_law B1 (List.mem_of_getElem? (i := 0) rfl) (i := ps.length) rfl (by simp <;> omega) rfl (fitc (show 0 ≤ (46 : Int32).toInt ∧ (46 : Int32).toInt ≤ 255 by decide)) rfl rfl rfl ?_
          intro hq19 wq20 Aq21
          have Phq19 : Ar Z hq19 h.size .char ((Bf (ps ++ [46])).map Value.int) := by rw [← put_step (by omega)]; exact Aq21
          refine Wp.run ok_law 1 215 #[.val (.int i0), .val (.int i1), .val (.int i2), .val (.int f3), .val (.int f4), .val (.int f5), .val (.int f6), .val (.int f7), .val (.int ((ush i0 (5 : Int32)) &&& (3 : Int32))), .val (.int (i1 &&& (2147483647 : Int32))), .val (.int (i2 &&& (2147483647 : Int32))), .val (.int d1), .val (.int d2), .val (.int d3), .val (.int d4), .val (.ref h.size), .val (.int ((Int32.ofNat ps.length) + (1 : Int32))), .unset, .unset, .unset] [] rfl ?_
          refine Wp.at #[.val (.int i0), .val (.int i1), .val (.int i2), .val (.int f3), .val (.int f4), .val (.int f5), .val (.int f6), .val (.int f7), .val (.int ((ush i0 (5 : Int32)) &&& (3 : Int32))), .val (.int (i1 &&& (2147483647 : Int32))), .val (.int (i2 &&& (2147483647 : Int32))), .val (.int d1), .val (.int d2), .val (.int d3), .val (.int d4), .val (.ref h.size), .val (.int (Int32.ofNat (ps ++ [46]).length)), .unset, .unset, .unset] [] ⟨(by rw [len_step ps 46] <;> rfl), rfl⟩ ?_
          refine Wp.run ok_law 3 221 #[.val (.int i0), .val (.int i1), .val (.int i2), .val (.int f3), .val (.int f4), .val (.int f5), .val (.int f6), .val (.int f7), .val (.int ((ush i0 (5 : Int32)) &&& (3 : Int32))), .val (.int (i1 &&& (2147483647 : Int32))), .val (.int (i2 &&& (2147483647 : Int32))), .val (.int d1), .val (.int d2), .val (.int d3), .val (.int d4), .val (.ref h.size), .val (.int (Int32.ofNat (ps ++ [46]).length)), .unset, .unset, .unset] [(.int d3), (.int (Int32.ofNat (ps ++ [46]).length)), (.ref h.size)] rfl ?_
          refine Wp.aput ok_law Phq19 (List.mem_of_getElem? (i := 0) rfl) (i := (ps ++ [46]).length) rfl (by simp <;> omega) rfl (fitc Dd3.lat) rfl rfl rfl ?_
          intro hq22 wq23 Aq24
          have Phq22 : Ar Z hq22 h.size .char ((Bf ((ps ++ [46]) ++ [d3])).map Value.int) := by rw [← put_step (by simp; omega)]; exact Aq24
          refine Wp.run ok_law 1 225 #[.val (.int i0), .val (.int i1), .val (.int i2), .val (.int f3), .val (.int f4), .val (.int f5), .val (.int f6), .val (.int f7), .val (.int ((ush i0 (5 : Int32)) &&& (3 : Int32))), .val (.int (i1 &&& (2147483647 : Int32))), .val (.int (i2 &&& (2147483647 : Int32))), .val (.int d1), .val (.int d2), .val (.int d3), .val (.int d4), .val (.ref h.size), .val (.int ((Int32.ofNat (ps ++ [46]).length) + (1 : Int32))), .unset, .unset, .unset] [] rfl ?_
          refine Wp.at #[.val (.int i0), .val (.int i1), .val (.int i2), .val (.int f3), .val (.int f4), .val (.int f5), .val (.int f6), .val (.int f7), .val (.int ((ush i0 (5 : Int32)) &&& (3 : Int32))), .val (.int (i1 &&& (2147483647 : Int32))), .val (.int (i2 &&& (2147483647 : Int32))), .val (.int d1), .val (.int d2), .val (.int d3), .val (.int d4), .val (.ref h.size), .val (.int (Int32.ofNat ((ps ++ [46]) ++ [d3]).length)), .unset, .unset, .unset] [] ⟨(by rw [len_step (ps ++ [46]) d3] <;> rfl), rfl⟩ ?_
          exact r225 hq22 ((ps ++ [46]) ++ [d3]) ng ip [46, d3] (by rw [hps]; simp) hng hip (Or.inr ⟨hz5, rfl⟩) Phq22
      have r175 : ∀ (h1 : Heap) (ng : List Int32), Ng ng → Ar Z h1 h.size .char ((Bf ng).map Value.int) → Wp l Z EL1 mt_law room_1 h1 [h.size] 1 8 175 #[.val (.int i0), .val (.int i1), .val (.int i2), .val (.int f3), .val (.int f4), .val (.int f5), .val (.int f6), .val (.int f7), .val (.int ((ush i0 (5 : Int32)) &&& (3 : Int32))), .val (.int (i1 &&& (2147483647 : Int32))), .val (.int (i2 &&& (2147483647 : Int32))), .val (.int d1), .val (.int d2), .val (.int d3), .val (.int d4), .val (.ref h.size), .val (.int (Int32.ofNat ng.length)), .unset, .unset, .unset] [] (fun v _ => v = some (.int 1)) := by
        intro h1 ng hng B1
        have hl : ng.length ≤ 1 := by rcases hng with rfl | rfl <;> simp
        refine Wp.run ok_law 3 181 #[.val (.int i0), .val (.int i1), .val (.int i2), .val (.int f3), .val (.int f4), .val (.int f5), .val (.int f6), .val (.int f7), .val (.int ((ush i0 (5 : Int32)) &&& (3 : Int32))), .val (.int (i1 &&& (2147483647 : Int32))), .val (.int (i2 &&& (2147483647 : Int32))), .val (.int d1), .val (.int d2), .val (.int d3), .val (.int d4), .val (.ref h.size), .val (.int (Int32.ofNat ng.length)), .unset, .unset, .unset] [(.int d1), (.int (Int32.ofNat ng.length)), (.ref h.size)] rfl ?_
        refine Wp.aput ok_law B1 (List.mem_of_getElem? (i := 0) rfl) (i := ng.length) rfl (by simp <;> omega) rfl (fitc D1.lat) rfl rfl rfl ?_
        intro hq25 wq26 Aq27
        have Phq25 : Ar Z hq25 h.size .char ((Bf (ng ++ [d1])).map Value.int) := by rw [← put_step (by omega)]; exact Aq27
        refine Wp.run ok_law 1 185 #[.val (.int i0), .val (.int i1), .val (.int i2), .val (.int f3), .val (.int f4), .val (.int f5), .val (.int f6), .val (.int f7), .val (.int ((ush i0 (5 : Int32)) &&& (3 : Int32))), .val (.int (i1 &&& (2147483647 : Int32))), .val (.int (i2 &&& (2147483647 : Int32))), .val (.int d1), .val (.int d2), .val (.int d3), .val (.int d4), .val (.ref h.size), .val (.int ((Int32.ofNat ng.length) + (1 : Int32))), .unset, .unset, .unset] [] rfl ?_
        refine Wp.at #[.val (.int i0), .val (.int i1), .val (.int i2), .val (.int f3), .val (.int f4), .val (.int f5), .val (.int f6), .val (.int f7), .val (.int ((ush i0 (5 : Int32)) &&& (3 : Int32))), .val (.int (i1 &&& (2147483647 : Int32))), .val (.int (i2 &&& (2147483647 : Int32))), .val (.int d1), .val (.int d2), .val (.int d3), .val (.int d4), .val (.ref h.size), .val (.int (Int32.ofNat (ng ++ [d1]).length)), .unset, .unset, .unset] [] ⟨(by rw [len_step ng d1] <;> rfl), rfl⟩ ?_
        refine Wp.run ok_law 1 187 #[.val (.int i0), .val (.int i1), .val (.int i2), .val (.int f3), .val (.int f4), .val (.int f5), .val (.int f6), .val (.int f7), .val (.int ((ush i0 (5 : Int32)) &&& (3 : Int32))), .val (.int (i1 &&& (2147483647 : Int32))), .val (.int (i2 &&& (2147483647 : Int32))), .val (.int d1), .val (.int d2), .val (.int d3), .val (.int d4), .val (.ref h.size), .val (.int (Int32.ofNat (ng ++ [d1]).length)), .unset, .unset, .unset] [(.int f4)] rfl ?_
        refine Wp.if0 ok_law 200 rfl rfl (by decide) (by decide) (fun hz4 => ?_) (fun hz4 => ?_)
        · replace hz4 : f4 = (0 : Int32) := hz4
          exact r200 hq25 (ng ++ [d1]) ng [d1] rfl hng (Or.inl rfl) Phq25
        · replace hz4 : ¬ f4 = (0 : Int32) := hz4
          refine Wp.run ok_law 3 196 #[.val (.int i0), .val (.int i1), .val (.int i2), .val (.int f3), .val (.int f4), .val (.int f5), .val (.int f6), .val (.int f7), .val (.int ((ush i0 (5 : Int32)) &&& (3 : Int32))), .val (.int (i1 &&& (2147483647 : Int32))), .val (.int (i2 &&& (2147483647 : Int32))), .val (.int d1), .val (.int d2), .val (.int d3), .val (.int d4), .val (.ref h.size), .val (.int (Int32.ofNat (ng ++ [d1]).length)), .unset, .unset, .unset] [(.int d2), (.int (Int32.ofNat (ng ++ [d1]).length)), (.ref h.size)] rfl ?_
          refine Wp.aput ok_law Phq25 (List.mem_of_getElem? (i := 0) rfl) (i := (ng ++ [d1]).length) rfl (by simp <;> omega) rfl (fitc Dd2.lat) rfl rfl rfl ?_
          intro hq28 wq29 Aq30
          have Phq28 : Ar Z hq28 h.size .char ((Bf ((ng ++ [d1]) ++ [d2])).map Value.int) := by rw [← put_step (by simp; omega)]; exact Aq30
          refine Wp.run ok_law 1 200 #[.val (.int i0), .val (.int i1), .val (.int i2), .val (.int f3), .val (.int f4), .val (.int f5), .val (.int f6), .val (.int f7), .val (.int ((ush i0 (5 : Int32)) &&& (3 : Int32))), .val (.int (i1 &&& (2147483647 : Int32))), .val (.int (i2 &&& (2147483647 : Int32))), .val (.int d1), .val (.int d2), .val (.int d3), .val (.int d4), .val (.ref h.size), .val (.int ((Int32.ofNat (ng ++ [d1]).length) + (1 : Int32))), .unset, .unset, .unset] [] rfl ?_
          refine Wp.at #[.val (.int i0), .val (.int i1), .val (.int i2), .val (.int f3), .val (.int f4), .val (.int f5), .val (.int f6), .val (.int f7), .val (.int ((ush i0 (5 : Int32)) &&& (3 : Int32))), .val (.int (i1 &&& (2147483647 : Int32))), .val (.int (i2 &&& (2147483647 : Int32))), .val (.int d1), .val (.int d2), .val (.int d3), .val (.int d4), .val (.ref h.size), .val (.int (Int32.ofNat ((ng ++ [d1]) ++ [d2]).length)), .unset, .unset, .unset] [] ⟨(by rw [len_step (ng ++ [d1]) d2] <;> rfl), rfl⟩ ?_
          exact r200 hq28 ((ng ++ [d1]) ++ [d2]) ng [d1, d2] (by simp) hng (Or.inr rfl) Phq28
      refine Wp.run ok_law 1 161 #[.val (.int i0), .val (.int i1), .val (.int i2), .val (.int f3), .val (.int f4), .val (.int f5), .val (.int f6), .val (.int f7), .val (.int ((ush i0 (5 : Int32)) &&& (3 : Int32))), .val (.int (i1 &&& (2147483647 : Int32))), .val (.int (i2 &&& (2147483647 : Int32))), .val (.int d1), .val (.int d2), .val (.int d3), .val (.int d4), .val (.ref h.size), .val (.int (0 : Int32)), .unset, .unset, .unset] [] rfl ?_
      refine Wp.at #[.val (.int i0), .val (.int i1), .val (.int i2), .val (.int f3), .val (.int f4), .val (.int f5), .val (.int f6), .val (.int f7), .val (.int ((ush i0 (5 : Int32)) &&& (3 : Int32))), .val (.int (i1 &&& (2147483647 : Int32))), .val (.int (i2 &&& (2147483647 : Int32))), .val (.int d1), .val (.int d2), .val (.int d3), .val (.int d4), .val (.ref h.size), .val (.int (Int32.ofNat ([] : List Int32).length)), .unset, .unset, .unset] [] ⟨rfl, rfl⟩ ?_
      refine Wp.run ok_law 1 162 #[.val (.int i0), .val (.int i1), .val (.int i2), .val (.int f3), .val (.int f4), .val (.int f5), .val (.int f6), .val (.int f7), .val (.int ((ush i0 (5 : Int32)) &&& (3 : Int32))), .val (.int (i1 &&& (2147483647 : Int32))), .val (.int (i2 &&& (2147483647 : Int32))), .val (.int d1), .val (.int d2), .val (.int d3), .val (.int d4), .val (.ref h.size), .val (.int (Int32.ofNat ([] : List Int32).length)), .unset, .unset, .unset] [(.int f3)] rfl ?_
      refine Wp.if0 ok_law 175 rfl rfl (by decide) (by decide) (fun hz3 => ?_) (fun hz3 => ?_)
      · replace hz3 : f3 = (0 : Int32) := hz3
        exact r175 h0 [] (Or.inl rfl) B0
      · replace hz3 : ¬ f3 = (0 : Int32) := hz3
        refine Wp.run ok_law 3 171 #[.val (.int i0), .val (.int i1), .val (.int i2), .val (.int f3), .val (.int f4), .val (.int f5), .val (.int f6), .val (.int f7), .val (.int ((ush i0 (5 : Int32)) &&& (3 : Int32))), .val (.int (i1 &&& (2147483647 : Int32))), .val (.int (i2 &&& (2147483647 : Int32))), .val (.int d1), .val (.int d2), .val (.int d3), .val (.int d4), .val (.ref h.size), .val (.int (Int32.ofNat ([] : List Int32).length)), .unset, .unset, .unset] [(.int (45 : Int32)), (.int (Int32.ofNat ([] : List Int32).length)), (.ref h.size)] rfl ?_
        refine Wp.aput ok_law B0 (List.mem_of_getElem? (i := 0) rfl) (i := ([] : List Int32).length) rfl (by simp <;> omega) rfl (fitc (show 0 ≤ (45 : Int32).toInt ∧ (45 : Int32).toInt ≤ 255 by decide)) rfl rfl rfl ?_
        intro hq31 wq32 Aq33
        have Phq31 : Ar Z hq31 h.size .char ((Bf (([] : List Int32) ++ [45])).map Value.int) := by rw [← put_step (by decide)]; exact Aq33
        refine Wp.run ok_law 1 175 #[.val (.int i0), .val (.int i1), .val (.int i2), .val (.int f3), .val (.int f4), .val (.int f5), .val (.int f6), .val (.int f7), .val (.int ((ush i0 (5 : Int32)) &&& (3 : Int32))), .val (.int (i1 &&& (2147483647 : Int32))), .val (.int (i2 &&& (2147483647 : Int32))), .val (.int d1), .val (.int d2), .val (.int d3), .val (.int d4), .val (.ref h.size), .val (.int ((Int32.ofNat ([] : List Int32).length) + (1 : Int32))), .unset, .unset, .unset] [] rfl ?_
        refine Wp.at #[.val (.int i0), .val (.int i1), .val (.int i2), .val (.int f3), .val (.int f4), .val (.int f5), .val (.int f6), .val (.int f7), .val (.int ((ush i0 (5 : Int32)) &&& (3 : Int32))), .val (.int (i1 &&& (2147483647 : Int32))), .val (.int (i2 &&& (2147483647 : Int32))), .val (.int d1), .val (.int d2), .val (.int d3), .val (.int d4), .val (.ref h.size), .val (.int (Int32.ofNat (([] : List Int32) ++ [45]).length)), .unset, .unset, .unset] [] ⟨(by rw [len_step ([] : List Int32) 45] <;> rfl), rfl⟩ ?_
        exact r175 hq31 _ (Or.inr rfl) Phq31
    refine Wp.if0 ok_law 102 rfl rfl (by decide) (by decide) (fun hz => ?_) (fun hz => ?_)
    · replace hz : f4 = (0 : Int32) := hz
      refine Wp.run ok_law 3 108 #[.val (.int i0), .val (.int i1), .val (.int i2), .val (.int f3), .val (.int f4), .val (.int f5), .val (.int f6), .val (.int f7), .val (.int ((ush i0 (5 : Int32)) &&& (3 : Int32))), .val (.int (i1 &&& (2147483647 : Int32))), .val (.int (i2 &&& (2147483647 : Int32))), .unset, .unset, .unset, .unset, .unset, .unset, .unset, .unset, .unset] [(.int (10 : Int32)), (.int (i1 &&& (2147483647 : Int32))), (.int (48 : Int32))] rfl ?_
      refine Wp.irem ok_law rfl rfl (by decide) ?_
      refine Wp.run ok_law 1 110 #[.val (.int i0), .val (.int i1), .val (.int i2), .val (.int f3), .val (.int f4), .val (.int f5), .val (.int f6), .val (.int f7), .val (.int ((ush i0 (5 : Int32)) &&& (3 : Int32))), .val (.int (i1 &&& (2147483647 : Int32))), .val (.int (i2 &&& (2147483647 : Int32))), .unset, .unset, .unset, .unset, .unset, .unset, .unset, .unset, .unset] [(.int ((48 : Int32) + ((i1 &&& (2147483647 : Int32)) % (10 : Int32))))] rfl ?_
      refine Wp.at #[.val (.int i0), .val (.int i1), .val (.int i2), .val (.int f3), .val (.int f4), .val (.int f5), .val (.int f6), .val (.int f7), .val (.int ((ush i0 (5 : Int32)) &&& (3 : Int32))), .val (.int (i1 &&& (2147483647 : Int32))), .val (.int (i2 &&& (2147483647 : Int32))), .unset, .unset, .unset, .unset, .unset, .unset, .unset, .unset, .unset] [(.int ((48 : Int32) + Int32.ofNat m2))] ⟨rfl, (by rw [show (i1 &&& (2147483647 : Int32)) % (10 : Int32) = Int32.ofNat m2 from e2] <;> rfl)⟩ ?_
      refine Wp.run ok_law 1 111 #[.val (.int i0), .val (.int i1), .val (.int i2), .val (.int f3), .val (.int f4), .val (.int f5), .val (.int f6), .val (.int f7), .val (.int ((ush i0 (5 : Int32)) &&& (3 : Int32))), .val (.int (i1 &&& (2147483647 : Int32))), .val (.int (i2 &&& (2147483647 : Int32))), .unset, .unset, .unset, .unset, .unset, .unset, .unset, .unset, .unset] [(.int (c16 ((48 : Int32) + Int32.ofNat m2)))] rfl ?_
      exact r111 _ (by rw [c16_lat (dig q2).lat]; exact dig q2)
    · replace hz : ¬ f4 = (0 : Int32) := hz
      refine Wp.run ok_law 3 96 #[.val (.int i0), .val (.int i1), .val (.int i2), .val (.int f3), .val (.int f4), .val (.int f5), .val (.int f6), .val (.int f7), .val (.int ((ush i0 (5 : Int32)) &&& (3 : Int32))), .val (.int (i1 &&& (2147483647 : Int32))), .val (.int (i2 &&& (2147483647 : Int32))), .unset, .unset, .unset, .unset, .unset, .unset, .unset, .unset, .unset] [(.int (9 : Int32)), (.int (i1 &&& (2147483647 : Int32))), (.int (49 : Int32))] rfl ?_
      refine Wp.irem ok_law rfl rfl (by decide) ?_
      refine Wp.run ok_law 1 98 #[.val (.int i0), .val (.int i1), .val (.int i2), .val (.int f3), .val (.int f4), .val (.int f5), .val (.int f6), .val (.int f7), .val (.int ((ush i0 (5 : Int32)) &&& (3 : Int32))), .val (.int (i1 &&& (2147483647 : Int32))), .val (.int (i2 &&& (2147483647 : Int32))), .unset, .unset, .unset, .unset, .unset, .unset, .unset, .unset, .unset] [(.int ((49 : Int32) + ((i1 &&& (2147483647 : Int32)) % (9 : Int32))))] rfl ?_
      refine Wp.at #[.val (.int i0), .val (.int i1), .val (.int i2), .val (.int f3), .val (.int f4), .val (.int f5), .val (.int f6), .val (.int f7), .val (.int ((ush i0 (5 : Int32)) &&& (3 : Int32))), .val (.int (i1 &&& (2147483647 : Int32))), .val (.int (i2 &&& (2147483647 : Int32))), .unset, .unset, .unset, .unset, .unset, .unset, .unset, .unset, .unset] [(.int ((49 : Int32) + Int32.ofNat m1))] ⟨rfl, (by rw [show (i1 &&& (2147483647 : Int32)) % (9 : Int32) = Int32.ofNat m1 from e1] <;> rfl)⟩ ?_
      refine Wp.run ok_law 2 111 #[.val (.int i0), .val (.int i1), .val (.int i2), .val (.int f3), .val (.int f4), .val (.int f5), .val (.int f6), .val (.int f7), .val (.int ((ush i0 (5 : Int32)) &&& (3 : Int32))), .val (.int (i1 &&& (2147483647 : Int32))), .val (.int (i2 &&& (2147483647 : Int32))), .unset, .unset, .unset, .unset, .unset, .unset, .unset, .unset, .unset] [(.int (c16 ((49 : Int32) + Int32.ofNat m1)))] rfl ?_
      exact r111 _ (by rw [c16_lat (dig1 q1).lat]; exact dig1 q1)
  have r52 : ∀ f3 f4 f5 f6 : Int32, Wp l Z EL1 mt_law room_1 h [] 0 0 52 #[.val (.int i0), .val (.int i1), .val (.int i2), .val (.int f3), .val (.int f4), .val (.int f5), .val (.int f6), .unset, .unset, .unset, .unset, .unset, .unset, .unset, .unset, .unset, .unset, .unset, .unset, .unset] [] (fun v _ => v = some (.int 1)) := by
    intro f3 f4 f5 f6
    refine Wp.run ok_law 3 56 #[.val (.int i0), .val (.int i1), .val (.int i2), .val (.int f3), .val (.int f4), .val (.int f5), .val (.int f6), .unset, .unset, .unset, .unset, .unset, .unset, .unset, .unset, .unset, .unset, .unset, .unset, .unset] [(.int (i0 &&& (16 : Int32)))] rfl ?_
    refine Wp.if0 ok_law 63 rfl rfl (by decide) (by decide) (fun hq => ?_) (fun hq => ?_)
    · replace hq : (i0 &&& (16 : Int32)) = (0 : Int32) := hq
      refine Wp.run ok_law 2 66 #[.val (.int i0), .val (.int i1), .val (.int i2), .val (.int f3), .val (.int f4), .val (.int f5), .val (.int f6), .val (.int (0 : Int32)), .unset, .unset, .unset, .unset, .unset, .unset, .unset, .unset, .unset, .unset, .unset, .unset] [] rfl ?_
      exact r66 f3 f4 f5 f6 _
    · replace hq : ¬ (i0 &&& (16 : Int32)) = (0 : Int32) := hq
      refine Wp.run ok_law 3 66 #[.val (.int i0), .val (.int i1), .val (.int i2), .val (.int f3), .val (.int f4), .val (.int f5), .val (.int f6), .val (.int (1 : Int32)), .unset, .unset, .unset, .unset, .unset, .unset, .unset, .unset, .unset, .unset, .unset, .unset] [] rfl ?_
      exact r66 f3 f4 f5 f6 _
  have r38 : ∀ f3 f4 f5 : Int32, Wp l Z EL1 mt_law room_1 h [] 0 0 38 #[.val (.int i0), .val (.int i1), .val (.int i2), .val (.int f3), .val (.int f4), .val (.int f5), .unset, .unset, .unset, .unset, .unset, .unset, .unset, .unset, .unset, .unset, .unset, .unset, .unset, .unset] [] (fun v _ => v = some (.int 1)) := by
    intro f3 f4 f5
    refine Wp.run ok_law 3 42 #[.val (.int i0), .val (.int i1), .val (.int i2), .val (.int f3), .val (.int f4), .val (.int f5), .unset, .unset, .unset, .unset, .unset, .unset, .unset, .unset, .unset, .unset, .unset, .unset, .unset, .unset] [(.int (i0 &&& (8 : Int32)))] rfl ?_
    refine Wp.if0 ok_law 49 rfl rfl (by decide) (by decide) (fun hq => ?_) (fun hq => ?_)
    · replace hq : (i0 &&& (8 : Int32)) = (0 : Int32) := hq
      refine Wp.run ok_law 2 52 #[.val (.int i0), .val (.int i1), .val (.int i2), .val (.int f3), .val (.int f4), .val (.int f5), .val (.int (0 : Int32)), .unset, .unset, .unset, .unset, .unset, .unset, .unset, .unset, .unset, .unset, .unset, .unset, .unset] [] rfl ?_
      exact r52 f3 f4 f5 _
    · replace hq : ¬ (i0 &&& (8 : Int32)) = (0 : Int32) := hq
      refine Wp.run ok_law 3 52 #[.val (.int i0), .val (.int i1), .val (.int i2), .val (.int f3), .val (.int f4), .val (.int f5), .val (.int (1 : Int32)), .unset, .unset, .unset, .unset, .unset, .unset, .unset, .unset, .unset, .unset, .unset, .unset, .unset] [] rfl ?_
      exact r52 f3 f4 f5 _
  have r25 : ∀ f3 f4 : Int32, Wp l Z EL1 mt_law room_1 h [] 0 0 25 #[.val (.int i0), .val (.int i1), .val (.int i2), .val (.int f3), .val (.int f4), .unset, .unset, .unset, .unset, .unset, .unset, .unset, .unset, .unset, .unset, .unset, .unset, .unset, .unset, .unset] [] (fun v _ => v = some (.int 1)) := by
    intro f3 f4
    refine Wp.run ok_law 3 28 #[.val (.int i0), .val (.int i1), .val (.int i2), .val (.int f3), .val (.int f4), .unset, .unset, .unset, .unset, .unset, .unset, .unset, .unset, .unset, .unset, .unset, .unset, .unset, .unset, .unset] [(.int (i0 &&& (4 : Int32)))] rfl ?_
    refine Wp.if0 ok_law 35 rfl rfl (by decide) (by decide) (fun hq => ?_) (fun hq => ?_)
    · replace hq : (i0 &&& (4 : Int32)) = (0 : Int32) := hq
      refine Wp.run ok_law 2 38 #[.val (.int i0), .val (.int i1), .val (.int i2), .val (.int f3), .val (.int f4), .val (.int (0 : Int32)), .unset, .unset, .unset, .unset, .unset, .unset, .unset, .unset, .unset, .unset, .unset, .unset, .unset, .unset] [] rfl ?_
      exact r38 f3 f4 _
    · replace hq : ¬ (i0 &&& (4 : Int32)) = (0 : Int32) := hq
      refine Wp.run ok_law 3 38 #[.val (.int i0), .val (.int i1), .val (.int i2), .val (.int f3), .val (.int f4), .val (.int (1 : Int32)), .unset, .unset, .unset, .unset, .unset, .unset, .unset, .unset, .unset, .unset, .unset, .unset, .unset, .unset] [] rfl ?_
      exact r38 f3 f4 _
  have r12 : ∀ f3 : Int32, Wp l Z EL1 mt_law room_1 h [] 0 0 12 #[.val (.int i0), .val (.int i1), .val (.int i2), .val (.int f3), .unset, .unset, .unset, .unset, .unset, .unset, .unset, .unset, .unset, .unset, .unset, .unset, .unset, .unset, .unset, .unset] [] (fun v _ => v = some (.int 1)) := by
    intro f3
    refine Wp.run ok_law 3 15 #[.val (.int i0), .val (.int i1), .val (.int i2), .val (.int f3), .unset, .unset, .unset, .unset, .unset, .unset, .unset, .unset, .unset, .unset, .unset, .unset, .unset, .unset, .unset, .unset] [(.int (i0 &&& (2 : Int32)))] rfl ?_
    refine Wp.if0 ok_law 22 rfl rfl (by decide) (by decide) (fun hq => ?_) (fun hq => ?_)
    · replace hq : (i0 &&& (2 : Int32)) = (0 : Int32) := hq
      refine Wp.run ok_law 2 25 #[.val (.int i0), .val (.int i1), .val (.int i2), .val (.int f3), .val (.int (0 : Int32)), .unset, .unset, .unset, .unset, .unset, .unset, .unset, .unset, .unset, .unset, .unset, .unset, .unset, .unset, .unset] [] rfl ?_
      exact r25 f3 _
    · replace hq : ¬ (i0 &&& (2 : Int32)) = (0 : Int32) := hq
      refine Wp.run ok_law 3 25 #[.val (.int i0), .val (.int i1), .val (.int i2), .val (.int f3), .val (.int (1 : Int32)), .unset, .unset, .unset, .unset, .unset, .unset, .unset, .unset, .unset, .unset, .unset, .unset, .unset, .unset, .unset] [] rfl ?_
      exact r25 f3 _
  refine Wp.run ok_law 3 3 #[.val (.int i0), .val (.int i1), .val (.int i2), .unset, .unset, .unset, .unset, .unset, .unset, .unset, .unset, .unset, .unset, .unset, .unset, .unset, .unset, .unset, .unset, .unset] [(.int (i0 &&& (1 : Int32)))] rfl ?_
  refine Wp.if0 ok_law 10 rfl rfl (by decide) (by decide) (fun hq => ?_) (fun hq => ?_)
  · replace hq : (i0 &&& (1 : Int32)) = (0 : Int32) := hq
    refine Wp.run ok_law 2 12 #[.val (.int i0), .val (.int i1), .val (.int i2), .val (.int (0 : Int32)), .unset, .unset, .unset, .unset, .unset, .unset, .unset, .unset, .unset, .unset, .unset, .unset, .unset, .unset, .unset, .unset] [] rfl ?_
    exact r12 _
  · replace hq : ¬ (i0 &&& (1 : Int32)) = (0 : Int32) := hq
    refine Wp.run ok_law 3 12 #[.val (.int i0), .val (.int i1), .val (.int i2), .val (.int (1 : Int32)), .unset, .unset, .unset, .unset, .unset, .unset, .unset, .unset, .unset, .unset, .unset, .unset, .unset, .unset, .unset, .unset] [] rfl ?_
    exact r12 _

set_option maxRecDepth 65536 in
set_option maxHeartbeats 4000000 in
theorem comes_1 {Post : Tables → Env → Array Value → State → Outcome → State → Prop} (hpost : ∀ tb e args s v u, (limb_1_1.after args s (.returned v) u = true ∧ limb_1_2.after args s (.returned v) u = true ∧ True) → ReturnedEndW s (.returned v) u (Jvm.fieldLocs frame_1_writes args s ++ Jvm.arrayLocs frame_1_arrays args s ++ Jvm.staticLocs frame_1_statics s) 40 3264 → Post tb e args s (.returned v) u) :
    ArmFor flags0 classFile x code maxLocals ret World_1 tables_1 room_1 Calls_1 rest_1 Pre_1 Post := by
  intro l hfl _ _ p e ha hc hk s m args below hf hA hF happ hP
  obtain ⟨hcalls, hrest, hpre⟩ := hP
  obtain ⟨-, -, -, hnamed, -, -, -, hat⟩ := (Spec.applies_iff hf).mp happ
  obtain ⟨hg, hn⟩ := and_e (Cond.before_iff.mp (show (Jvm.Cond.and given_1 narrow_1).before args s = true from hpre))
  obtain ⟨hcount, g0⟩ := and_e hg
  obtain ⟨k0, g1⟩ := and_e g0
  obtain ⟨k1, g2⟩ := and_e g1
  have k2 := g2
  obtain ⟨w0, w1, w2, rfl⟩ : ∃ w0 w1 w2 : Value, args = #[w0, w1, w2] := by
    have hs : args.size = 3 := by simpa [Cond.value, given_1] using hcount
    obtain ⟨L⟩ := args
    match L, hs with
    | [w0, w1, w2], _ => exact ⟨w0, w1, w2, rfl⟩
  have hw := fun d (hd : d ∈ tables_1) => atoms_spec (ws := Jvm.Cond.code x code maxLocals ret :: tables_1) hat d (List.mem_cons_of_mem _ hd)
  obtain ⟨hsets, hown0⟩ := atoms_of _ (rest_1_c_eq ▸ (show rest_1_c.before _ s = true from hrest))
  have hfit : Fit s := fun {y c} hc i hi => by
    obtain ⟨ha, rfl⟩ := Array.getElem?_eq_some_iff.mp hc
    have q := List.all_eq_true.mp ((Array.all_eq_true_iff_forall_mem.mp hF) _ (Array.getElem_mem ha)) i (List.mem_range.mpr hi)
    simpa [Array.getElem?_eq_getElem hi] using q
  obtain ⟨i0, e0⟩ := is_v k0
  obtain rfl : w0 = (.int i0) := Option.some.inj e0
  obtain ⟨i1, e1⟩ := is_v k1
  obtain rfl : w1 = (.int i1) := Option.some.inj e1
  obtain ⟨i2, e2⟩ := is_v k2
  obtain rfl : w2 = (.int i2) := Option.some.inj e2
  have n5 := not_v (Cond.before_iff.mp (hsets _ (List.mem_of_getElem? (i := 2) rfl)))
  obtain ⟨vC, eC⟩ := is_v (Cond.before_iff.mp (hsets _ (List.mem_of_getElem? (i := 1) rfl)))
  have SC : Sta s s.heap "java/lang/String" "COMPACT_STRINGS" "Z" (.int vC) := Sta.start eC (Or.inl (hsets _ (List.mem_of_getElem? (i := 0) rfl)))
  obtain ⟨vF, eF, rF⟩ := isR_v (Cond.before_iff.mp (hsets _ (List.mem_of_getElem? (i := 8) rfl)))
  have SF : Sta s s.heap "jdk/internal/util/Preconditions" "SIOOBE_FORMATTER" "Ljava/util/function/BiFunction;" vF := Sta.start eF (Or.inl (hsets _ (List.mem_of_getElem? (i := 7) rfl)))
  have nC : ¬ (vC = (0 : Int32)) := gotF (Cond.eq_ints eC (Term.int_eval (0))) n5
  have hEL : EW s #[.int i0, .int i1, .int i2] EL1 := (EW.cons (hw _ (List.mem_of_getElem? (i := 83) rfl)) (by decide) (EW.cons (hw _ (List.mem_of_getElem? (i := 113) rfl)) (by decide) (EW.cons (hw _ (List.mem_of_getElem? (i := 114) rfl)) (by decide) EW.nil)))
  have G : Gd s #[.int i0, .int i1, .int i2] := ⟨hw, hEL, ⟨vC, SC, nC⟩, ⟨vF, SF, rF⟩, trivial⟩
  have hCH : CHv s EL1 s.vm s.heap := CHv.start hEL hcalls.1 (hsets _ (List.mem_of_getElem? (i := 2) rfl)) (hw _ (List.mem_of_getElem? (i := 24) rfl)) (hw _ (List.mem_of_getElem? (i := 7) rfl))
  obtain ⟨n, o, h1, h2, h3, _, L, Wo, rfl, rfl, -, N, -, -, hWH, hq⟩ := ct_law G i0 i1 i2 s.heap p e ha hc hk s m _ below hf ((Spec.applies_iff_loose hf).mp happ).1 ⟨rfl, State.Warmed39.refl s, rfl, hCH, Own.nil, ext_refl _⟩ trivial
  refine ⟨n, _, h1, h2, h3, hpost _ _ _ _ _ _ ⟨Cond.after_iff.mpr rfl, Cond.after_iff.mpr (eq_i res_at (Term.int_eval (1)) rfl), trivial⟩ ⟨hq.1, hq.2.1, hq.2.2.1, (hq.2.2.2.sift fun y hy => Or.inr (N y hy)).mono (by decide) (by decide)⟩⟩
theorem main_1_1 : Claimed_1_1 := comes_1 fun _ _ _ _ _ _ h hF => ⟨h.1, hF⟩
theorem main_1_2 : Claimed_1_2 := comes_1 fun _ _ _ _ _ _ h hF => ⟨h.2.1, hF⟩
end Jvm.Pilot.@@N@@
namespace Jvm.Pilot.@@N@@
open Jvm Jvm.ClassFile Sem Op Lib Jvm.Free Jvm.Stand Jvm.Pilot.@@N@@.Jvm.D
/-! MADE BY PROGRAM (witnessworld.py) out of the Statement's table words and the real class files: 24 classes; the members and pool entries that the words name. The judged class is class 1, her method 1. -/
namespace start1
open Jvm.ClassFile
def u (s : String) : CpInfo := .utf8 (stringToUtf16 s)
/-- a pool by its gaps: so many unusable entries, then the entry; so many at the end -/
def gap : Nat → List CpInfo → List CpInfo
  | 0, r => r
  | n + 1, r => .unusable :: gap n r
def poolList (es : List (Nat × CpInfo)) (last : Nat) : List CpInfo := es.foldr (fun e r => gap e.1 (e.2 :: r)) (gap last [])
def pool (es : List (Nat × CpInfo)) (last : Nat) : Array CpInfo := ⟨poolList es last⟩
def fileOf (pool : Array CpInfo) (this : Nat) (attrs : Array Attribute := #[]) (ms : Array MethodInfo := #[]) (fl : Nat := 33) (sup : Nat := 0) (ifs : Array Nat := #[]) (fds : Array FieldInfo := #[]) : ClassFile where
  minorVersion := 0
  majorVersion := 65
  constantPool := pool
  accessFlags := fl
  thisClass := this
  superClass := sup
  interfaces := ifs
  fields := fds
  methods := ms
  attributes := attrs
def plain (name : String) (sup : Option ClassId) : Class where
  name := name
  kind := .ordinary
  loader := none
  accessFlags := 33
  super := sup
  interfaces := #[]
  cf := none
  fields := #[]
  methods := #[]
  instanceTypes := #[]
  staticTypes := #[]
  resolved := #[]
  callSites := []
  init := .initialized
  statics := none
  mirror := none

def pool0 : Array CpInfo := pool [(5, u "<init>"), (0, u "()V"), (1, .class_ 10), (1, u "java/lang/Object")] 113

def k0c0 : Code := { maxStack := 0, maxLocals := 1, code := object_method_1_code, exceptionTable := #[], attributes := #[] }
def k0m0 : Method := { name := "<init>", desc := "()V", sig := { parameters := [], returnType := none }, accessFlags := 1, code := some k0c0 }
/-- java/lang/Object -/
def k0 : Class := { plain "java/lang/Object" none with
  accessFlags := 33
  interfaces := #[]
  cf := some (fileOf pool0 8 #[] #[{ accessFlags := 1, nameIndex := 5, descriptorIndex := 6, attributes := #[] }] 33 0 #[] #[])
  fields := #[]
  methods := #[k0m0]
  instanceTypes := #[]
  staticTypes := #[]
  resolved := Array.replicate 124 none
  statics := none }

def pool1 : Array CpInfo := pool [(2, .class_ 4), (1, u "java/lang/Object"), (0, u "<init>"), (0, u "()V"), (0, .integer 2147483647), (0, .methodref 9 10), (0, .class_ 11), (0, .nameAndType 12 13), (0, u "com/example/mono_contract/monocontract/NumberTextIsIntegerPinLaw"), (0, u "cut"), (0, u "([CI)Ljava/lang/String;"), (0, .methodref 15 16), (0, .class_ 17), (0, .nameAndType 18 19), (0, u "com/example/mono_contract/monocontract/NumberText"), (0, u "of"), (0, u "(Ljava/lang/String;)Lcom/example/mono_contract/monocontract/NumberText;"), (0, .methodref 15 21), (0, .nameAndType 22 23), (0, u "isInteger"), (0, u "()Z"), (0, .class_ 25), (0, u "java/lang/String"), (0, .methodref 24 27), (0, .nameAndType 5 28), (0, u "([C)V"), (2, u "law"), (0, u "(III)Z")] 5

def k1m0 : Method := { name := "<init>", desc := "()V", sig := { parameters := [], returnType := none }, accessFlags := 1, code := none }
def k1c1 : Code := { maxStack := 3, maxLocals := 20, code := code, exceptionTable := #[], attributes := #[] }
def k1m1 : Method := { name := "law", desc := "(III)Z", sig := { parameters := [.int, .int, .int], returnType := some .boolean }, accessFlags := 9, code := some k1c1 }
def k1c2 : Code := { maxStack := 7, maxLocals := 2, code := method_3_code, exceptionTable := #[], attributes := #[] }
def k1m2 : Method := { name := "cut", desc := "([CI)Ljava/lang/String;", sig := { parameters := [(.array .char), .int], returnType := some (.object "java/lang/String") }, accessFlags := 10, code := some k1c2 }
/-- com/example/mono_contract/monocontract/NumberTextIsIntegerPinLaw -/
def k1 : Class := { plain "com/example/mono_contract/monocontract/NumberTextIsIntegerPinLaw" (some 0) with
  accessFlags := 49
  interfaces := #[]
  cf := some (fileOf pool1 9 #[] #[{ accessFlags := 1, nameIndex := 5, descriptorIndex := 6, attributes := #[] }, { accessFlags := 9, nameIndex := 31, descriptorIndex := 32, attributes := #[] }, { accessFlags := 10, nameIndex := 12, descriptorIndex := 13, attributes := #[] }] 49 2 #[] #[])
  fields := #[]
  methods := #[k1m0, k1m1, k1m2]
  instanceTypes := #[]
  staticTypes := #[]
  resolved := Array.replicate 38 none
  statics := none }

def pool2 : Array CpInfo := pool [(1, .class_ 2), (0, u "java/io/Serializable"), (0, .class_ 4), (0, u "java/lang/Object")] 2

/-- java/io/Serializable -/
def k2 : Class := { plain "java/io/Serializable" (some 0) with
  accessFlags := 1537
  interfaces := #[]
  cf := some (fileOf pool2 1 #[] #[] 1537 3 #[] #[])
  fields := #[]
  methods := #[]
  instanceTypes := #[]
  staticTypes := #[]
  resolved := Array.replicate 7 none
  statics := none }

def pool3 : Array CpInfo := pool [(1, .class_ 2), (0, u "java/lang/Comparable"), (0, .class_ 4), (0, u "java/lang/Object")] 7

/-- java/lang/Comparable -/
def k3 : Class := { plain "java/lang/Comparable" (some 0) with
  accessFlags := 1537
  interfaces := #[]
  cf := some (fileOf pool3 1 #[] #[] 1537 3 #[] #[])
  fields := #[]
  methods := #[]
  instanceTypes := #[]
  staticTypes := #[]
  resolved := Array.replicate 12 none
  statics := none }

def pool4 : Array CpInfo := pool [(2, .class_ 4), (1, u "java/lang/CharSequence"), (42, .class_ 48), (0, u "java/lang/CharSequence$1CodePointIterator"), (10, .class_ 60), (0, u "java/lang/CharSequence$1CharIterator"), (5, .class_ 67), (0, u "java/lang/Object")] 63

/-- java/lang/CharSequence -/
def k4 : Class := { plain "java/lang/CharSequence" (some 0) with
  accessFlags := 1537
  interfaces := #[]
  cf := some (fileOf pool4 2 #[.nestMembers #[47, 59]] #[] 1537 66 #[] #[])
  fields := #[]
  methods := #[]
  instanceTypes := #[]
  staticTypes := #[]
  resolved := Array.replicate 131 none
  statics := none }

def pool5 : Array CpInfo := pool [(1, .class_ 2), (0, u "java/lang/constant/Constable"), (0, .class_ 4), (0, u "java/lang/Object")] 6

/-- java/lang/constant/Constable -/
def k5 : Class := { plain "java/lang/constant/Constable" (some 0) with
  accessFlags := 1537
  interfaces := #[]
  cf := some (fileOf pool5 1 #[] #[] 1537 3 #[] #[])
  fields := #[]
  methods := #[]
  instanceTypes := #[]
  staticTypes := #[]
  resolved := Array.replicate 11 none
  statics := none }

def pool6 : Array CpInfo := pool [(1, .class_ 2), (0, u "java/lang/constant/ConstantDesc"), (0, .class_ 4), (0, u "java/lang/Object")] 32

/-- java/lang/constant/ConstantDesc -/
def k6 : Class := { plain "java/lang/constant/ConstantDesc" (some 0) with
  accessFlags := 1537
  interfaces := #[]
  cf := some (fileOf pool6 1 #[] #[] 1537 3 #[] #[])
  fields := #[]
  methods := #[]
  instanceTypes := #[]
  staticTypes := #[]
  resolved := Array.replicate 37 none
  statics := none }

def pool7 : Array CpInfo := pool [(1, .methodref 2 3), (0, .class_ 4), (0, .nameAndType 5 6), (0, u "java/lang/Object"), (0, u "<init>"), (0, u "()V"), (2, .fieldref 10 11), (0, .class_ 12), (0, .nameAndType 13 14), (0, u "java/lang/String"), (0, u "value"), (0, u "[B"), (0, .fieldref 10 16), (0, .nameAndType 17 18), (0, u "coder"), (0, u "B"), (2, u "hash"), (0, u "I"), (2, u "hashIsZero"), (0, u "Z"), (0, .methodref 10 28), (0, .nameAndType 5 29), (0, u "([CIILjava/lang/Void;)V"), (8, .fieldref 10 39), (0, .nameAndType 40 26), (0, u "COMPACT_STRINGS"), (1, .class_ 44), (1, u "java/lang/StringUTF16"), (0, u "compress"), (1, .methodref 42 48), (0, .nameAndType 49 50), (0, u "coderFromArrayLen"), (0, u "([BI)B"), (56, .class_ 109), (1, u "java/lang/StringLatin1"), (32, u "()Z"), (34, .methodref 42 178), (0, .nameAndType 45 179), (0, u "([CII)[B"), (31, u "([BB)V"), (122, u "()I"), (0, .methodref 10 336), (0, .nameAndType 17 337), (0, u "()B"), (38, u "([BI[BII)I"), (115, .methodref 10 493), (0, .nameAndType 494 142), (0, u "isLatin1"), (10, .methodref 10 506), (0, .nameAndType 507 334), (0, u "length"), (5, u "checkFromToIndex"), (7, .methodref 10 522), (0, .nameAndType 523 524), (0, u "checkBoundsBeginEnd"), (0, u "(III)V"), (34, .class_ 561), (1, u "jdk/internal/util/ArraysSupport"), (0, u "mismatch"), (12, .class_ 576), (0, u "java/lang/CharSequence"), (22, u "CASE_INSENSITIVE_ORDER"), (0, u "Ljava/util/Comparator;"), (6, .methodref 559 608), (0, .nameAndType 562 376), (15, .methodref 10 625), (0, .nameAndType 626 627), (0, u "startsWith"), (0, u "(Ljava/lang/String;I)Z"), (5, .methodref 10 634), (0, .nameAndType 635 636), (0, u "indexOf"), (0, u "(II)I"), (0, .methodref 107 638), (0, .nameAndType 635 639), (0, u "([BIII)I"), (41, .methodref 10 682), (0, .nameAndType 683 684), (0, u "substring"), (0, u "(II)Ljava/lang/String;"), (0, .methodref 107 686), (0, .nameAndType 687 688), (0, u "newString"), (0, u "([BII)Ljava/lang/String;"), (76, u "(I)I"), (126, u "(I)Ljava/lang/String;"), (117, u "([C)V"), (42, .fieldref 1054 1055), (0, .class_ 1056), (0, .nameAndType 1057 1058), (0, u "jdk/internal/util/Preconditions"), (0, u "SIOOBE_FORMATTER"), (0, u "Ljava/util/function/BiFunction;"), (3, .methodref 1054 1063), (0, .nameAndType 513 1064), (0, u "(IIILjava/util/function/BiFunction;)I"), (36, u "serialPersistentFields"), (0, u "[Ljava/io/ObjectStreamField;"), (0, .class_ 1104), (0, u "java/lang/String$CaseInsensitiveComparator"), (1, .class_ 1107), (0, u "java/io/Serializable"), (0, .class_ 1109), (0, u "java/lang/Comparable"), (0, .class_ 1111), (0, u "java/lang/constant/Constable"), (0, .class_ 1113), (0, u "java/lang/constant/ConstantDesc"), (2, u "serialVersionUID"), (0, u "J"), (3, u "REPL"), (0, u "C"), (2, u "LATIN1"), (1, u "UTF16"), (129, u "(Ljava/lang/String;)Z")] 193

def k7m0 : Method := { name := "<init>", desc := "()V", sig := { parameters := [], returnType := none }, accessFlags := 1, code := none }
def k7c1 : Code := { maxStack := 5, maxLocals := 2, code := jdk_42_method_3_code, exceptionTable := #[], attributes := #[] }
def k7m1 : Method := { name := "<init>", desc := "([C)V", sig := { parameters := [(.array .char)], returnType := none }, accessFlags := 1, code := some k7c1 }
def k7c2 : Code := { maxStack := 2, maxLocals := 1, code := jdk_42_method_54_code, exceptionTable := #[], attributes := #[] }
def k7m2 : Method := { name := "length", desc := "()I", sig := { parameters := [], returnType := some .int }, accessFlags := 1, code := some k7c2 }
def k7c3 : Code := { maxStack := 5, maxLocals := 8, code := jdk_42_method_75_code, exceptionTable := #[], attributes := #[] }
def k7m3 : Method := { name := "startsWith", desc := "(Ljava/lang/String;I)Z", sig := { parameters := [(.object "java/lang/String"), .int], returnType := some .boolean }, accessFlags := 1, code := some k7c3 }
def k7c4 : Code := { maxStack := 3, maxLocals := 2, code := jdk_42_method_76_code, exceptionTable := #[], attributes := #[] }
def k7m4 : Method := { name := "startsWith", desc := "(Ljava/lang/String;)Z", sig := { parameters := [(.object "java/lang/String")], returnType := some .boolean }, accessFlags := 1, code := some k7c4 }
def k7c5 : Code := { maxStack := 3, maxLocals := 2, code := jdk_42_method_79_code, exceptionTable := #[], attributes := #[] }
def k7m5 : Method := { name := "indexOf", desc := "(I)I", sig := { parameters := [.int], returnType := some .int }, accessFlags := 1, code := some k7c5 }
def k7c6 : Code := { maxStack := 4, maxLocals := 3, code := jdk_42_method_80_code, exceptionTable := #[], attributes := #[] }
def k7m6 : Method := { name := "indexOf", desc := "(II)I", sig := { parameters := [.int, .int], returnType := some .int }, accessFlags := 1, code := some k7c6 }
def k7c7 : Code := { maxStack := 3, maxLocals := 2, code := jdk_42_method_91_code, exceptionTable := #[], attributes := #[] }
def k7m7 : Method := { name := "substring", desc := "(I)Ljava/lang/String;", sig := { parameters := [.int], returnType := some (.object "java/lang/String") }, accessFlags := 1, code := some k7c7 }
def k7c8 : Code := { maxStack := 3, maxLocals := 5, code := jdk_42_method_92_code, exceptionTable := #[], attributes := #[] }
def k7m8 : Method := { name := "substring", desc := "(II)Ljava/lang/String;", sig := { parameters := [.int, .int], returnType := some (.object "java/lang/String") }, accessFlags := 1, code := some k7c8 }
def k7c9 : Code := { maxStack := 4, maxLocals := 6, code := jdk_42_method_149_code, exceptionTable := #[], attributes := #[] }
def k7m9 : Method := { name := "<init>", desc := "([CIILjava/lang/Void;)V", sig := { parameters := [(.array .char), .int, .int, (.object "java/lang/Void")], returnType := none }, accessFlags := 2, code := some k7c9 }
def k7c10 : Code := { maxStack := 2, maxLocals := 3, code := jdk_42_method_151_code, exceptionTable := #[], attributes := #[] }
def k7m10 : Method := { name := "<init>", desc := "([BB)V", sig := { parameters := [(.array .byte), .byte], returnType := none }, accessFlags := 0, code := some k7c10 }
def k7c11 : Code := { maxStack := 1, maxLocals := 1, code := jdk_42_method_152_code, exceptionTable := #[], attributes := #[] }
def k7m11 : Method := { name := "coder", desc := "()B", sig := { parameters := [], returnType := some .byte }, accessFlags := 0, code := some k7c11 }
def k7c12 : Code := { maxStack := 1, maxLocals := 1, code := jdk_42_method_154_code, exceptionTable := #[], attributes := #[] }
def k7m12 : Method := { name := "isLatin1", desc := "()Z", sig := { parameters := [], returnType := some .boolean }, accessFlags := 0, code := some k7c12 }
def k7c13 : Code := { maxStack := 4, maxLocals := 3, code := jdk_42_method_158_code, exceptionTable := #[], attributes := #[] }
def k7m13 : Method := { name := "checkBoundsBeginEnd", desc := "(III)V", sig := { parameters := [.int, .int, .int], returnType := none }, accessFlags := 8, code := some k7c13 }
/-- java/lang/String -/
def k7 : Class := { plain "java/lang/String" (some 0) with
  accessFlags := 49
  interfaces := #[2, 3, 4, 5, 6]
  cf := some (fileOf pool7 10 #[.nestMembers #[1103]] #[{ accessFlags := 1, nameIndex := 5, descriptorIndex := 6, attributes := #[] }, { accessFlags := 1, nameIndex := 5, descriptorIndex := 1010, attributes := #[] }, { accessFlags := 1, nameIndex := 507, descriptorIndex := 334, attributes := #[] }, { accessFlags := 1, nameIndex := 626, descriptorIndex := 627, attributes := #[] }, { accessFlags := 1, nameIndex := 626, descriptorIndex := 1257, attributes := #[] }, { accessFlags := 1, nameIndex := 635, descriptorIndex := 765, attributes := #[] }, { accessFlags := 1, nameIndex := 635, descriptorIndex := 636, attributes := #[] }, { accessFlags := 1, nameIndex := 683, descriptorIndex := 892, attributes := #[] }, { accessFlags := 1, nameIndex := 683, descriptorIndex := 684, attributes := #[] }, { accessFlags := 2, nameIndex := 5, descriptorIndex := 29, attributes := #[] }, { accessFlags := 0, nameIndex := 5, descriptorIndex := 211, attributes := #[] }, { accessFlags := 0, nameIndex := 17, descriptorIndex := 337, attributes := #[] }, { accessFlags := 0, nameIndex := 494, descriptorIndex := 142, attributes := #[] }, { accessFlags := 8, nameIndex := 523, descriptorIndex := 524, attributes := #[] }] 49 2 #[1106, 1108, 575, 1110, 1112] #[{ accessFlags := 18, nameIndex := 13, descriptorIndex := 14, attributes := #[] }, { accessFlags := 18, nameIndex := 17, descriptorIndex := 18, attributes := #[] }, { accessFlags := 2, nameIndex := 21, descriptorIndex := 22, attributes := #[] }, { accessFlags := 2, nameIndex := 25, descriptorIndex := 26, attributes := #[] }, { accessFlags := 26, nameIndex := 1116, descriptorIndex := 1117, attributes := #[] }, { accessFlags := 24, nameIndex := 40, descriptorIndex := 26, attributes := #[] }, { accessFlags := 26, nameIndex := 1101, descriptorIndex := 1102, attributes := #[] }, { accessFlags := 26, nameIndex := 1121, descriptorIndex := 1122, attributes := #[] }, { accessFlags := 25, nameIndex := 599, descriptorIndex := 600, attributes := #[] }, { accessFlags := 24, nameIndex := 1125, descriptorIndex := 18, attributes := #[] }, { accessFlags := 24, nameIndex := 1127, descriptorIndex := 18, attributes := #[] }])
  fields := #[{ name := "value", type := (.array .byte), accessFlags := 18, slot := 0, constantValue := 0 }, { name := "coder", type := .byte, accessFlags := 18, slot := 1, constantValue := 0 }, { name := "hash", type := .int, accessFlags := 2, slot := 2, constantValue := 0 }, { name := "hashIsZero", type := .boolean, accessFlags := 2, slot := 3, constantValue := 0 }, { name := "serialVersionUID", type := .long, accessFlags := 26, slot := 0, constantValue := 0 }, { name := "COMPACT_STRINGS", type := .boolean, accessFlags := 24, slot := 1, constantValue := 0 }, { name := "serialPersistentFields", type := (.array (.object "java/io/ObjectStreamField")), accessFlags := 26, slot := 2, constantValue := 0 }, { name := "REPL", type := .char, accessFlags := 26, slot := 3, constantValue := 0 }, { name := "CASE_INSENSITIVE_ORDER", type := (.object "java/util/Comparator"), accessFlags := 25, slot := 4, constantValue := 0 }, { name := "LATIN1", type := .byte, accessFlags := 24, slot := 5, constantValue := 0 }, { name := "UTF16", type := .byte, accessFlags := 24, slot := 6, constantValue := 0 }]
  methods := #[k7m0, k7m1, k7m2, k7m3, k7m4, k7m5, k7m6, k7m7, k7m8, k7m9, k7m10, k7m11, k7m12, k7m13]
  instanceTypes := #[(.array .byte), .byte, .int, .boolean]
  staticTypes := #[.long, .boolean, (.array (.object "java/io/ObjectStreamField")), .char, (.object "java/util/Comparator"), .byte, .byte]
  resolved := Array.replicate 1451 none
  statics := some 0 }

def pool8 : Array CpInfo := pool [(6, .class_ 8), (1, u "java/lang/Object"), (0, u "<init>"), (0, u "()V"), (1, .class_ 14), (1, u "java/lang/StringUTF16"), (31, u "$assertionsDisabled"), (0, u "Z"), (13, u "HI_BYTE_SHIFT"), (0, u "I"), (2, u "LO_BYTE_SHIFT"), (49, .methodref 12 116), (0, .nameAndType 117 118), (0, u "compress"), (0, u "([CI[BII)I"), (3, u "([CII)[B"), (138, u "coderFromArrayLen"), (0, u "([BI)B"), (106, .class_ 371), (1, u "java/lang/StringUTF16$LinesSpliterator"), (58, u "MAX_LENGTH"), (196, .class_ 628), (0, u "java/lang/StringUTF16$CodePointsSpliterator"), (0, .class_ 630), (0, u "java/lang/StringUTF16$CharsSpliterator")] 4

def k8m0 : Method := { name := "<init>", desc := "()V", sig := { parameters := [], returnType := none }, accessFlags := 0, code := none }
def k8c1 : Code := { maxStack := 2, maxLocals := 2, code := jdk_52_method_15_code, exceptionTable := #[], attributes := #[] }
def k8m1 : Method := { name := "coderFromArrayLen", desc := "([BI)B", sig := { parameters := [(.array .byte), .int], returnType := some .byte }, accessFlags := 8, code := some k8c1 }
def k8c2 : Code := { maxStack := 5, maxLocals := 6, code := jdk_52_method_16_code, exceptionTable := #[], attributes := #[] }
def k8m2 : Method := { name := "compress", desc := "([CII)[B", sig := { parameters := [(.array .char), .int, .int], returnType := some (.array .byte) }, accessFlags := 9, code := some k8c2 }
def k8c3 : Code := { maxStack := 3, maxLocals := 7, code := jdk_52_method_21_code, exceptionTable := #[], attributes := #[] }
def k8m3 : Method := { name := "compress", desc := "([CI[BII)I", sig := { parameters := [(.array .char), .int, (.array .byte), .int, .int], returnType := some .int }, accessFlags := 9, code := some k8c3 }
/-- java/lang/StringUTF16 -/
def k8 : Class := { plain "java/lang/StringUTF16" (some 0) with
  accessFlags := 48
  interfaces := #[]
  cf := some (fileOf pool8 12 #[.nestMembers #[627, 629, 369]] #[{ accessFlags := 0, nameIndex := 9, descriptorIndex := 10, attributes := #[] }, { accessFlags := 8, nameIndex := 261, descriptorIndex := 262, attributes := #[] }, { accessFlags := 9, nameIndex := 117, descriptorIndex := 122, attributes := #[] }, { accessFlags := 9, nameIndex := 117, descriptorIndex := 118, attributes := #[] }] 48 6 #[] #[{ accessFlags := 26, nameIndex := 61, descriptorIndex := 62, attributes := #[] }, { accessFlags := 26, nameIndex := 65, descriptorIndex := 62, attributes := #[] }, { accessFlags := 24, nameIndex := 430, descriptorIndex := 62, attributes := #[] }, { accessFlags := 4120, nameIndex := 46, descriptorIndex := 47, attributes := #[] }])
  fields := #[{ name := "HI_BYTE_SHIFT", type := .int, accessFlags := 26, slot := 0, constantValue := 0 }, { name := "LO_BYTE_SHIFT", type := .int, accessFlags := 26, slot := 1, constantValue := 0 }, { name := "MAX_LENGTH", type := .int, accessFlags := 24, slot := 2, constantValue := 0 }, { name := "$assertionsDisabled", type := .boolean, accessFlags := 4120, slot := 3, constantValue := 0 }]
  methods := #[k8m0, k8m1, k8m2, k8m3]
  instanceTypes := #[]
  staticTypes := #[.int, .int, .int, .boolean]
  resolved := Array.replicate 635 none
  statics := none }

def pool9 : Array CpInfo := pool [(1, .methodref 2 3), (0, .class_ 4), (0, .nameAndType 5 6), (0, u "java/lang/Object"), (0, u "<init>"), (0, u "()V"), (0, .class_ 8), (0, u "java/lang/Record")] 13

def k9c0 : Code := { maxStack := 1, maxLocals := 1, code := jdk_30_method_1_code, exceptionTable := #[], attributes := #[] }
def k9m0 : Method := { name := "<init>", desc := "()V", sig := { parameters := [], returnType := none }, accessFlags := 4, code := some k9c0 }
/-- java/lang/Record -/
def k9 : Class := { plain "java/lang/Record" (some 0) with
  accessFlags := 1057
  interfaces := #[]
  cf := some (fileOf pool9 7 #[] #[{ accessFlags := 4, nameIndex := 5, descriptorIndex := 6, attributes := #[] }] 1057 2 #[] #[])
  fields := #[]
  methods := #[k9m0]
  instanceTypes := #[]
  staticTypes := #[]
  resolved := Array.replicate 22 none
  statics := none }

def pool10 : Array CpInfo := pool [(1, .methodref 2 3), (0, .class_ 4), (0, .nameAndType 5 6), (0, u "java/lang/Record"), (0, u "<init>"), (0, u "()V"), (0, .fieldref 8 9), (0, .class_ 10), (0, .nameAndType 11 12), (0, u "com/example/mono_contract/monocontract/NumberText"), (0, u "text"), (0, u "Ljava/lang/String;"), (0, .fieldref 8 14), (0, .nameAndType 15 16), (0, u "negative"), (0, u "Z"), (0, .fieldref 8 18), (0, .nameAndType 19 12), (0, u "integer"), (0, .fieldref 8 21), (0, .nameAndType 22 12), (0, u "fraction"), (0, .fieldref 8 24), (0, .nameAndType 25 12), (0, u "exponent"), (0, .methodref 27 28), (0, .class_ 29), (0, .nameAndType 30 31), (0, u "java/lang/String"), (0, u "indexOf"), (0, u "(I)I"), (0, .methodref 33 34), (0, .class_ 35), (0, .nameAndType 36 37), (0, u "java/lang/Math"), (0, u "max"), (0, u "(II)I"), (0, .methodref 27 39), (0, .nameAndType 40 41), (0, u "length"), (0, u "()I"), (0, .string 43), (0, u "-"), (0, .methodref 27 45), (0, .nameAndType 46 47), (0, u "startsWith"), (0, u "(Ljava/lang/String;)Z"), (0, .methodref 27 49), (0, .nameAndType 50 51), (0, u "substring"), (0, u "(II)Ljava/lang/String;"), (0, .string 53), (0, u ""), (0, .string 55), (0, u "0"), (0, .methodref 27 57), (0, .nameAndType 50 58), (0, u "(I)Ljava/lang/String;"), (0, .methodref 8 60), (0, .nameAndType 5 61), (0, u "(Ljava/lang/String;ZLjava/lang/String;Ljava/lang/String;Ljava/lang/String;)V"), (31, u "()Z"), (2, u "FIVE"), (0, u "Ljava/math/BigInteger;"), (41, u "RUN"), (0, u "I"), (5, u "of"), (0, u "(Ljava/lang/String;)Lcom/example/mono_contract/monocontract/NumberText;"), (1, u "isInteger")] 36

def k10c0 : Code := { maxStack := 2, maxLocals := 6, code := prog_8_method_1_code, exceptionTable := #[], attributes := #[] }
def k10m0 : Method := { name := "<init>", desc := "(Ljava/lang/String;ZLjava/lang/String;Ljava/lang/String;Ljava/lang/String;)V", sig := { parameters := [(.object "java/lang/String"), .boolean, (.object "java/lang/String"), (.object "java/lang/String"), (.object "java/lang/String")], returnType := none }, accessFlags := 0, code := some k10c0 }
def k10c1 : Code := { maxStack := 7, maxLocals := 8, code := prog_8_method_2_code, exceptionTable := #[], attributes := #[] }
def k10m1 : Method := { name := "of", desc := "(Ljava/lang/String;)Lcom/example/mono_contract/monocontract/NumberText;", sig := { parameters := [(.object "java/lang/String")], returnType := some (.object "com/example/mono_contract/monocontract/NumberText") }, accessFlags := 8, code := some k10c1 }
def k10c2 : Code := { maxStack := 3, maxLocals := 1, code := prog_8_method_3_code, exceptionTable := #[], attributes := #[] }
def k10m2 : Method := { name := "isInteger", desc := "()Z", sig := { parameters := [], returnType := some .boolean }, accessFlags := 0, code := some k10c2 }
/-- com/example/mono_contract/monocontract/NumberText -/
def k10 : Class := { plain "com/example/mono_contract/monocontract/NumberText" (some 9) with
  accessFlags := 48
  interfaces := #[]
  cf := some (fileOf pool10 8 #[] #[{ accessFlags := 0, nameIndex := 5, descriptorIndex := 61, attributes := #[] }, { accessFlags := 8, nameIndex := 146, descriptorIndex := 147, attributes := #[] }, { accessFlags := 0, nameIndex := 149, descriptorIndex := 93, attributes := #[] }] 48 2 #[] #[{ accessFlags := 18, nameIndex := 11, descriptorIndex := 12, attributes := #[] }, { accessFlags := 18, nameIndex := 15, descriptorIndex := 16, attributes := #[] }, { accessFlags := 18, nameIndex := 19, descriptorIndex := 12, attributes := #[] }, { accessFlags := 18, nameIndex := 22, descriptorIndex := 12, attributes := #[] }, { accessFlags := 18, nameIndex := 25, descriptorIndex := 12, attributes := #[] }, { accessFlags := 26, nameIndex := 139, descriptorIndex := 140, attributes := #[] }, { accessFlags := 26, nameIndex := 96, descriptorIndex := 97, attributes := #[] }])
  fields := #[{ name := "text", type := (.object "java/lang/String"), accessFlags := 18, slot := 0, constantValue := 0 }, { name := "negative", type := .boolean, accessFlags := 18, slot := 1, constantValue := 0 }, { name := "integer", type := (.object "java/lang/String"), accessFlags := 18, slot := 2, constantValue := 0 }, { name := "fraction", type := (.object "java/lang/String"), accessFlags := 18, slot := 3, constantValue := 0 }, { name := "exponent", type := (.object "java/lang/String"), accessFlags := 18, slot := 4, constantValue := 0 }, { name := "RUN", type := .int, accessFlags := 26, slot := 0, constantValue := 0 }, { name := "FIVE", type := (.object "java/math/BigInteger"), accessFlags := 26, slot := 1, constantValue := 0 }]
  methods := #[k10m0, k10m1, k10m2]
  instanceTypes := #[(.object "java/lang/String"), .boolean, (.object "java/lang/String"), (.object "java/lang/String"), (.object "java/lang/String")]
  staticTypes := #[.int, (.object "java/math/BigInteger")]
  resolved := Array.replicate 186 none
  statics := none }

def pool11 : Array CpInfo := pool [(1, .class_ 2), (0, u "java/lang/String"), (1, .class_ 6), (1, u "java/lang/Object"), (0, u "<init>"), (0, u "()V"), (5, .class_ 16), (1, u "java/lang/StringLatin1"), (21, .methodref 39 40), (0, .class_ 41), (0, .nameAndType 42 43), (0, u "java/lang/Math"), (0, u "min"), (0, u "(II)I"), (44, .methodref 14 89), (0, .nameAndType 90 91), (0, u "canEncode"), (0, u "(I)Z"), (0, .methodref 39 93), (0, .nameAndType 94 43), (0, u "max"), (0, .methodref 14 96), (0, .nameAndType 97 98), (0, u "indexOfChar"), (0, u "([BIII)I"), (2, u "indexOf"), (10, .methodref 1 113), (0, .nameAndType 7 114), (0, u "([BB)V"), (6, u "$assertionsDisabled"), (0, u "Z"), (8, .class_ 133), (1, u "java/util/Arrays"), (62, u "newString"), (0, u "([BII)Ljava/lang/String;"), (23, .class_ 223), (1, u "java/lang/StringLatin1$LinesSpliterator"), (8, .methodref 131 233), (0, .nameAndType 234 235), (0, u "copyOfRange"), (0, u "([BII)[B"), (154, .class_ 391), (0, u "java/lang/StringLatin1$CharsSpliterator")] 3

def k11m0 : Method := { name := "<init>", desc := "()V", sig := { parameters := [], returnType := none }, accessFlags := 0, code := none }
def k11c1 : Code := { maxStack := 2, maxLocals := 1, code := jdk_43_method_4_code, exceptionTable := #[], attributes := #[] }
def k11m1 : Method := { name := "canEncode", desc := "(I)Z", sig := { parameters := [.int], returnType := some .boolean }, accessFlags := 9, code := some k11c1 }
def k11c2 : Code := { maxStack := 4, maxLocals := 4, code := jdk_43_method_22_code, exceptionTable := #[], attributes := #[] }
def k11m2 : Method := { name := "indexOf", desc := "([BIII)I", sig := { parameters := [(.array .byte), .int, .int, .int], returnType := some .int }, accessFlags := 9, code := some k11c2 }
def k11c3 : Code := { maxStack := 2, maxLocals := 6, code := jdk_43_method_23_code, exceptionTable := #[], attributes := #[] }
def k11m3 : Method := { name := "indexOfChar", desc := "([BIII)I", sig := { parameters := [(.array .byte), .int, .int, .int], returnType := some .int }, accessFlags := 10, code := some k11c3 }
def k11c4 : Code := { maxStack := 6, maxLocals := 3, code := jdk_43_method_47_code, exceptionTable := #[], attributes := #[] }
def k11m4 : Method := { name := "newString", desc := "([BII)Ljava/lang/String;", sig := { parameters := [(.array .byte), .int, .int], returnType := some (.object "java/lang/String") }, accessFlags := 9, code := some k11c4 }
/-- java/lang/StringLatin1 -/
def k11 : Class := { plain "java/lang/StringLatin1" (some 0) with
  accessFlags := 48
  interfaces := #[]
  cf := some (fileOf pool11 14 #[.nestMembers #[390, 221]] #[{ accessFlags := 0, nameIndex := 7, descriptorIndex := 8, attributes := #[] }, { accessFlags := 9, nameIndex := 90, descriptorIndex := 91, attributes := #[] }, { accessFlags := 9, nameIndex := 101, descriptorIndex := 98, attributes := #[] }, { accessFlags := 10, nameIndex := 97, descriptorIndex := 98, attributes := #[] }, { accessFlags := 9, nameIndex := 196, descriptorIndex := 197, attributes := #[] }] 48 4 #[] #[{ accessFlags := 4120, nameIndex := 121, descriptorIndex := 122, attributes := #[] }])
  fields := #[{ name := "$assertionsDisabled", type := .boolean, accessFlags := 4120, slot := 0, constantValue := 0 }]
  methods := #[k11m0, k11m1, k11m2, k11m3, k11m4]
  instanceTypes := #[]
  staticTypes := #[.boolean]
  resolved := Array.replicate 395 none
  statics := none }

def pool12 : Array CpInfo := pool [(1, .class_ 2), (0, u "java/lang/Math"), (1, .class_ 6), (1, u "java/lang/Object"), (0, u "<init>"), (0, u "()V"), (89, .class_ 100), (1, u "java/lang/Math$RandomNumberGeneratorHolder"), (71, u "negativeZeroFloatBits"), (0, u "J"), (2, u "negativeZeroDoubleBits"), (21, u "max"), (2, u "min"), (43, u "$assertionsDisabled"), (0, u "Z"), (88, u "(II)I"), (2, u "twoToTheDoubleScaleDown"), (0, u "D"), (4, u "twoToTheDoubleScaleUp"), (9, u "E"), (3, u "PI"), (2, u "TAU"), (2, u "DEGREES_TO_RADIANS"), (0, u "RADIANS_TO_DEGREES")] 94

def k12m0 : Method := { name := "<init>", desc := "()V", sig := { parameters := [], returnType := none }, accessFlags := 2, code := none }
def k12c1 : Code := { maxStack := 2, maxLocals := 2, code := jdk_29_method_65_code, exceptionTable := #[], attributes := #[] }
def k12m1 : Method := { name := "max", desc := "(II)I", sig := { parameters := [.int, .int], returnType := some .int }, accessFlags := 9, code := some k12c1 }
def k12c2 : Code := { maxStack := 2, maxLocals := 2, code := jdk_29_method_69_code, exceptionTable := #[], attributes := #[] }
def k12m2 : Method := { name := "min", desc := "(II)I", sig := { parameters := [.int, .int], returnType := some .int }, accessFlags := 9, code := some k12c2 }
/-- java/lang/Math -/
def k12 : Class := { plain "java/lang/Math" (some 0) with
  accessFlags := 49
  interfaces := #[]
  cf := some (fileOf pool12 1 #[.nestMembers #[98]] #[{ accessFlags := 2, nameIndex := 7, descriptorIndex := 8, attributes := #[] }, { accessFlags := 9, nameIndex := 198, descriptorIndex := 335, attributes := #[] }, { accessFlags := 9, nameIndex := 201, descriptorIndex := 335, attributes := #[] }] 49 4 #[] #[{ accessFlags := 25, nameIndex := 354, descriptorIndex := 339, attributes := #[] }, { accessFlags := 25, nameIndex := 358, descriptorIndex := 339, attributes := #[] }, { accessFlags := 25, nameIndex := 361, descriptorIndex := 339, attributes := #[] }, { accessFlags := 26, nameIndex := 364, descriptorIndex := 339, attributes := #[] }, { accessFlags := 26, nameIndex := 365, descriptorIndex := 339, attributes := #[] }, { accessFlags := 26, nameIndex := 172, descriptorIndex := 173, attributes := #[] }, { accessFlags := 26, nameIndex := 176, descriptorIndex := 173, attributes := #[] }, { accessFlags := 8, nameIndex := 344, descriptorIndex := 339, attributes := #[] }, { accessFlags := 8, nameIndex := 338, descriptorIndex := 339, attributes := #[] }, { accessFlags := 4120, nameIndex := 245, descriptorIndex := 246, attributes := #[] }])
  fields := #[{ name := "E", type := .double, accessFlags := 25, slot := 0, constantValue := 0 }, { name := "PI", type := .double, accessFlags := 25, slot := 1, constantValue := 0 }, { name := "TAU", type := .double, accessFlags := 25, slot := 2, constantValue := 0 }, { name := "DEGREES_TO_RADIANS", type := .double, accessFlags := 26, slot := 3, constantValue := 0 }, { name := "RADIANS_TO_DEGREES", type := .double, accessFlags := 26, slot := 4, constantValue := 0 }, { name := "negativeZeroFloatBits", type := .long, accessFlags := 26, slot := 5, constantValue := 0 }, { name := "negativeZeroDoubleBits", type := .long, accessFlags := 26, slot := 6, constantValue := 0 }, { name := "twoToTheDoubleScaleUp", type := .double, accessFlags := 8, slot := 7, constantValue := 0 }, { name := "twoToTheDoubleScaleDown", type := .double, accessFlags := 8, slot := 8, constantValue := 0 }, { name := "$assertionsDisabled", type := .boolean, accessFlags := 4120, slot := 9, constantValue := 0 }]
  methods := #[k12m0, k12m1, k12m2]
  instanceTypes := #[]
  staticTypes := #[.double, .double, .double, .double, .double, .long, .long, .double, .double, .boolean]
  resolved := Array.replicate 460 none
  statics := none }

def pool13 : Array CpInfo := pool [(9, u "<init>"), (6, .class_ 18), (1, u "java/lang/Object"), (0, u "()V"), (1, .class_ 23), (1, u "jdk/internal/util/ArraysSupport"), (0, u "LOG2_ARRAY_LONG_INDEX_SCALE"), (0, u "I"), (2, u "U"), (0, u "Ljdk/internal/misc/Unsafe;"), (8, u "BIG_ENDIAN"), (0, u "Z"), (8, u "LOG2_BYTE_BIT_SIZE"), (4, u "LOG2_ARRAY_INT_INDEX_SCALE"), (54, u "JLA"), (0, u "Ljdk/internal/access/JavaLangAccess;"), (11, u "LOG2_ARRAY_BOOLEAN_INDEX_SCALE"), (9, u "LOG2_ARRAY_BYTE_INDEX_SCALE"), (5, u "LOG2_ARRAY_CHAR_INDEX_SCALE"), (5, u "LOG2_ARRAY_SHORT_INDEX_SCALE"), (5, u "mismatch"), (12, u "LOG2_ARRAY_FLOAT_INDEX_SCALE"), (24, u "LOG2_ARRAY_DOUBLE_INDEX_SCALE"), (89, u "T_BOOLEAN"), (2, u "T_CHAR"), (1, u "T_FLOAT"), (1, u "T_DOUBLE"), (1, u "T_BYTE"), (1, u "T_SHORT"), (1, u "T_INT"), (1, u "T_LONG"), (1, u "SOFT_MAX_ARRAY_LENGTH"), (42, u "([BI[BII)I")] 40

def k13m0 : Method := { name := "<init>", desc := "()V", sig := { parameters := [], returnType := none }, accessFlags := 2, code := none }
def k13c1 : Code := { maxStack := 8, maxLocals := 8, code := jdk_48_method_14_code, exceptionTable := #[], attributes := #[] }
def k13m1 : Method := { name := "mismatch", desc := "([BI[BII)I", sig := { parameters := [(.array .byte), .int, (.array .byte), .int, .int], returnType := some .int }, accessFlags := 9, code := some k13c1 }
/-- jdk/internal/util/ArraysSupport -/
def k13 : Class := { plain "jdk/internal/util/ArraysSupport" (some 0) with
  accessFlags := 33
  interfaces := #[]
  cf := some (fileOf pool13 21 #[] #[{ accessFlags := 2, nameIndex := 9, descriptorIndex := 19, attributes := #[] }, { accessFlags := 9, nameIndex := 149, descriptorIndex := 337, attributes := #[] }] 33 16 #[] #[{ accessFlags := 24, nameIndex := 28, descriptorIndex := 29, attributes := #[] }, { accessFlags := 26, nameIndex := 38, descriptorIndex := 39, attributes := #[] }, { accessFlags := 25, nameIndex := 121, descriptorIndex := 25, attributes := #[] }, { accessFlags := 25, nameIndex := 131, descriptorIndex := 25, attributes := #[] }, { accessFlags := 25, nameIndex := 137, descriptorIndex := 25, attributes := #[] }, { accessFlags := 25, nameIndex := 143, descriptorIndex := 25, attributes := #[] }, { accessFlags := 25, nameIndex := 53, descriptorIndex := 25, attributes := #[] }, { accessFlags := 25, nameIndex := 24, descriptorIndex := 25, attributes := #[] }, { accessFlags := 25, nameIndex := 162, descriptorIndex := 25, attributes := #[] }, { accessFlags := 25, nameIndex := 187, descriptorIndex := 25, attributes := #[] }, { accessFlags := 26, nameIndex := 48, descriptorIndex := 25, attributes := #[] }, { accessFlags := 25, nameIndex := 277, descriptorIndex := 25, attributes := #[] }, { accessFlags := 25, nameIndex := 280, descriptorIndex := 25, attributes := #[] }, { accessFlags := 25, nameIndex := 282, descriptorIndex := 25, attributes := #[] }, { accessFlags := 25, nameIndex := 284, descriptorIndex := 25, attributes := #[] }, { accessFlags := 25, nameIndex := 286, descriptorIndex := 25, attributes := #[] }, { accessFlags := 25, nameIndex := 288, descriptorIndex := 25, attributes := #[] }, { accessFlags := 25, nameIndex := 290, descriptorIndex := 25, attributes := #[] }, { accessFlags := 25, nameIndex := 292, descriptorIndex := 25, attributes := #[] }, { accessFlags := 26, nameIndex := 108, descriptorIndex := 109, attributes := #[] }, { accessFlags := 25, nameIndex := 294, descriptorIndex := 25, attributes := #[] }])
  fields := #[{ name := "U", type := (.object "jdk/internal/misc/Unsafe"), accessFlags := 24, slot := 0, constantValue := 0 }, { name := "BIG_ENDIAN", type := .boolean, accessFlags := 26, slot := 1, constantValue := 0 }, { name := "LOG2_ARRAY_BOOLEAN_INDEX_SCALE", type := .int, accessFlags := 25, slot := 2, constantValue := 0 }, { name := "LOG2_ARRAY_BYTE_INDEX_SCALE", type := .int, accessFlags := 25, slot := 3, constantValue := 0 }, { name := "LOG2_ARRAY_CHAR_INDEX_SCALE", type := .int, accessFlags := 25, slot := 4, constantValue := 0 }, { name := "LOG2_ARRAY_SHORT_INDEX_SCALE", type := .int, accessFlags := 25, slot := 5, constantValue := 0 }, { name := "LOG2_ARRAY_INT_INDEX_SCALE", type := .int, accessFlags := 25, slot := 6, constantValue := 0 }, { name := "LOG2_ARRAY_LONG_INDEX_SCALE", type := .int, accessFlags := 25, slot := 7, constantValue := 0 }, { name := "LOG2_ARRAY_FLOAT_INDEX_SCALE", type := .int, accessFlags := 25, slot := 8, constantValue := 0 }, { name := "LOG2_ARRAY_DOUBLE_INDEX_SCALE", type := .int, accessFlags := 25, slot := 9, constantValue := 0 }, { name := "LOG2_BYTE_BIT_SIZE", type := .int, accessFlags := 26, slot := 10, constantValue := 0 }, { name := "T_BOOLEAN", type := .int, accessFlags := 25, slot := 11, constantValue := 0 }, { name := "T_CHAR", type := .int, accessFlags := 25, slot := 12, constantValue := 0 }, { name := "T_FLOAT", type := .int, accessFlags := 25, slot := 13, constantValue := 0 }, { name := "T_DOUBLE", type := .int, accessFlags := 25, slot := 14, constantValue := 0 }, { name := "T_BYTE", type := .int, accessFlags := 25, slot := 15, constantValue := 0 }, { name := "T_SHORT", type := .int, accessFlags := 25, slot := 16, constantValue := 0 }, { name := "T_INT", type := .int, accessFlags := 25, slot := 17, constantValue := 0 }, { name := "T_LONG", type := .int, accessFlags := 25, slot := 18, constantValue := 0 }, { name := "JLA", type := (.object "jdk/internal/access/JavaLangAccess"), accessFlags := 26, slot := 19, constantValue := 0 }, { name := "SOFT_MAX_ARRAY_LENGTH", type := .int, accessFlags := 25, slot := 20, constantValue := 0 }]
  methods := #[k13m0, k13m1]
  instanceTypes := #[]
  staticTypes := #[(.object "jdk/internal/misc/Unsafe"), .boolean, .int, .int, .int, .int, .int, .int, .int, .int, .int, .int, .int, .int, .int, .int, .int, .int, .int, (.object "jdk/internal/access/JavaLangAccess"), .int]
  resolved := Array.replicate 378 none
  statics := none }

def pool14 : Array CpInfo := pool [(2, .class_ 4), (1, u "java/lang/Object"), (0, u "<init>"), (0, u "()V"), (17, .class_ 26), (1, u "jdk/internal/util/Preconditions"), (20, u "checkFromToIndex"), (7, .class_ 56), (0, u "jdk/internal/util/Preconditions$4"), (57, .class_ 115), (0, u "jdk/internal/util/Preconditions$1"), (7, u "SIOOBE_FORMATTER"), (0, u "Ljava/util/function/BiFunction;"), (0, .class_ 126), (0, u "jdk/internal/util/Preconditions$2"), (3, u "AIOOBE_FORMATTER"), (0, .class_ 132), (0, u "jdk/internal/util/Preconditions$3"), (3, u "IOOBE_FORMATTER"), (46, u "(IIILjava/util/function/BiFunction;)I")] 10

def k14m0 : Method := { name := "<init>", desc := "()V", sig := { parameters := [], returnType := none }, accessFlags := 1, code := none }
def k14c1 : Code := { maxStack := 4, maxLocals := 4, code := jdk_41_method_12_code, exceptionTable := #[], attributes := #[] }
def k14m1 : Method := { name := "checkFromToIndex", desc := "(IIILjava/util/function/BiFunction;)I", sig := { parameters := [.int, .int, .int, (.object "java/util/function/BiFunction")], returnType := some .int }, accessFlags := 9, code := some k14c1 }
/-- jdk/internal/util/Preconditions -/
def k14 : Class := { plain "jdk/internal/util/Preconditions" (some 0) with
  accessFlags := 33
  interfaces := #[]
  cf := some (fileOf pool14 24 #[.nestMembers #[55, 131, 125, 114]] #[{ accessFlags := 1, nameIndex := 5, descriptorIndex := 6, attributes := #[] }, { accessFlags := 9, nameIndex := 47, descriptorIndex := 183, attributes := #[] }] 33 2 #[] #[{ accessFlags := 25, nameIndex := 123, descriptorIndex := 124, attributes := #[] }, { accessFlags := 25, nameIndex := 130, descriptorIndex := 124, attributes := #[] }, { accessFlags := 25, nameIndex := 136, descriptorIndex := 124, attributes := #[] }])
  fields := #[{ name := "SIOOBE_FORMATTER", type := (.object "java/util/function/BiFunction"), accessFlags := 25, slot := 0, constantValue := 0 }, { name := "AIOOBE_FORMATTER", type := (.object "java/util/function/BiFunction"), accessFlags := 25, slot := 1, constantValue := 0 }, { name := "IOOBE_FORMATTER", type := (.object "java/util/function/BiFunction"), accessFlags := 25, slot := 2, constantValue := 0 }]
  methods := #[k14m0, k14m1]
  instanceTypes := #[]
  staticTypes := #[(.object "java/util/function/BiFunction"), (.object "java/util/function/BiFunction"), (.object "java/util/function/BiFunction")]
  resolved := Array.replicate 194 none
  statics := some 1 }

def pool15 : Array CpInfo := pool [(2, .class_ 4), (1, u "java/lang/Object"), (0, u "<init>"), (0, u "()V"), (7, .class_ 16), (1, u "java/util/Arrays"), (57, .class_ 76), (1, u "java/util/Arrays$NaturalOrder"), (36, .class_ 115), (1, u "java/util/Arrays$LegacyMergeSort"), (1, u "Z"), (21, u "copyOfRange"), (10, .methodref 151 152), (0, .class_ 153), (0, .nameAndType 154 155), (0, u "java/lang/System"), (0, u "arraycopy"), (0, u "(Ljava/lang/Object;ILjava/lang/Object;II)V"), (148, .methodref 305 306), (0, .class_ 307), (0, .nameAndType 308 309), (0, u "java/lang/Math"), (0, u "min"), (0, u "(II)I"), (29, .methodref 14 340), (0, .nameAndType 341 342), (0, u "copyOfRangeByte"), (0, u "([BII)[B"), (0, .methodref 14 344), (0, .nameAndType 345 346), (0, u "checkLength"), (0, u "(II)V"), (28, .class_ 376), (0, u "java/util/Arrays$ArrayList"), (68, u "$assertionsDisabled"), (269, u "MIN_ARRAY_SORT_GRAN"), (0, u "I"), (2, u "INSERTIONSORT_THRESHOLD"), (255, .class_ 976), (0, u "java/util/Arrays$ArrayItr")] 52

def k15m0 : Method := { name := "<init>", desc := "()V", sig := { parameters := [], returnType := none }, accessFlags := 2, code := none }
def k15c1 : Code := { maxStack := 4, maxLocals := 2, code := jdk_65_method_131_code, exceptionTable := #[], attributes := #[] }
def k15m1 : Method := { name := "checkLength", desc := "(II)V", sig := { parameters := [.int, .int], returnType := none }, accessFlags := 10, code := some k15c1 }
def k15c2 : Code := { maxStack := 3, maxLocals := 3, code := jdk_65_method_132_code, exceptionTable := #[], attributes := #[] }
def k15m2 : Method := { name := "copyOfRange", desc := "([BII)[B", sig := { parameters := [(.array .byte), .int, .int], returnType := some (.array .byte) }, accessFlags := 9, code := some k15c2 }
def k15c3 : Code := { maxStack := 6, maxLocals := 5, code := jdk_65_method_133_code, exceptionTable := #[], attributes := #[] }
def k15m3 : Method := { name := "copyOfRangeByte", desc := "([BII)[B", sig := { parameters := [(.array .byte), .int, .int], returnType := some (.array .byte) }, accessFlags := 10, code := some k15c3 }
/-- java/util/Arrays -/
def k15 : Class := { plain "java/util/Arrays" (some 0) with
  accessFlags := 49
  interfaces := #[]
  cf := some (fileOf pool15 14 #[.nestMembers #[975, 375, 113, 74]] #[{ accessFlags := 2, nameIndex := 5, descriptorIndex := 6, attributes := #[] }, { accessFlags := 10, nameIndex := 345, descriptorIndex := 346, attributes := #[] }, { accessFlags := 9, nameIndex := 139, descriptorIndex := 342, attributes := #[] }, { accessFlags := 10, nameIndex := 341, descriptorIndex := 342, attributes := #[] }] 49 2 #[] #[{ accessFlags := 26, nameIndex := 715, descriptorIndex := 716, attributes := #[] }, { accessFlags := 26, nameIndex := 719, descriptorIndex := 716, attributes := #[] }, { accessFlags := 4120, nameIndex := 445, descriptorIndex := 117, attributes := #[] }])
  fields := #[{ name := "MIN_ARRAY_SORT_GRAN", type := .int, accessFlags := 26, slot := 0, constantValue := 0 }, { name := "INSERTIONSORT_THRESHOLD", type := .int, accessFlags := 26, slot := 1, constantValue := 0 }, { name := "$assertionsDisabled", type := .boolean, accessFlags := 4120, slot := 2, constantValue := 0 }]
  methods := #[k15m0, k15m1, k15m2, k15m3]
  instanceTypes := #[]
  staticTypes := #[.int, .int, .boolean]
  resolved := Array.replicate 1029 none
  statics := none }

def pool16 : Array CpInfo := pool [(2, .class_ 4), (1, u "java/lang/Object"), (0, u "<init>"), (0, u "()V"), (1, .class_ 10), (1, u "java/lang/System"), (0, u "allowSecurityManager"), (0, u "I"), (16, u "cons"), (0, u "Ljava/io/Console;"), (77, .class_ 110), (1, u "java/lang/System$CallersHolder"), (43, u "initialErrStream"), (0, u "Ljava/io/PrintStream;"), (19, u "security"), (0, u "Ljava/lang/SecurityManager;"), (31, .class_ 209), (0, u "java/lang/System$1"), (7, u "props"), (0, u "Ljava/util/Properties;"), (2, u "lineSeparator"), (0, u "Ljava/lang/String;"), (96, .class_ 321), (1, u "java/lang/System$LoggerFinder"), (5, .class_ 328), (0, u "java/lang/System$Logger"), (67, u "err"), (2, u "out"), (91, u "notSupportedJnuEncoding"), (15, u "in"), (17, u "initialIn"), (0, u "Ljava/io/InputStream;"), (35, u "bootLayer"), (0, u "Ljava/lang/ModuleLayer;"), (99, .class_ 664), (0, u "java/lang/System$2"), (9, u "NEVER"), (2, u "MAYBE"), (49, u "arraycopy"), (0, u "(Ljava/lang/Object;ILjava/lang/Object;II)V"), (72, .class_ 802), (0, u "java/lang/System$Logger$Level")] 31

def k16m0 : Method := { name := "<init>", desc := "()V", sig := { parameters := [], returnType := none }, accessFlags := 2, code := none }
def k16m1 : Method := { name := "arraycopy", desc := "(Ljava/lang/Object;ILjava/lang/Object;II)V", sig := { parameters := [(.object "java/lang/Object"), .int, (.object "java/lang/Object"), .int, .int], returnType := none }, accessFlags := 265, code := none }
/-- java/lang/System -/
def k16 : Class := { plain "java/lang/System" (some 0) with
  accessFlags := 49
  interfaces := #[]
  cf := some (fileOf pool16 8 #[.nestMembers #[319, 327, 801, 108, 663, 208]] #[{ accessFlags := 2, nameIndex := 5, descriptorIndex := 6, attributes := #[] }, { accessFlags := 265, nameIndex := 727, descriptorIndex := 728, attributes := #[] }] 49 2 #[] #[{ accessFlags := 25, nameIndex := 507, descriptorIndex := 526, attributes := #[] }, { accessFlags := 25, nameIndex := 399, descriptorIndex := 155, attributes := #[] }, { accessFlags := 25, nameIndex := 396, descriptorIndex := 155, attributes := #[] }, { accessFlags := 10, nameIndex := 525, descriptorIndex := 526, attributes := #[] }, { accessFlags := 26, nameIndex := 674, descriptorIndex := 12, attributes := #[] }, { accessFlags := 26, nameIndex := 677, descriptorIndex := 12, attributes := #[] }, { accessFlags := 10, nameIndex := 11, descriptorIndex := 12, attributes := #[] }, { accessFlags := 74, nameIndex := 175, descriptorIndex := 176, attributes := #[] }, { accessFlags := 10, nameIndex := 491, descriptorIndex := 222, attributes := #[] }, { accessFlags := 74, nameIndex := 29, descriptorIndex := 30, attributes := #[] }, { accessFlags := 74, nameIndex := 154, descriptorIndex := 155, attributes := #[] }, { accessFlags := 10, nameIndex := 217, descriptorIndex := 218, attributes := #[] }, { accessFlags := 10, nameIndex := 221, descriptorIndex := 222, attributes := #[] }, { accessFlags := 8, nameIndex := 562, descriptorIndex := 563, attributes := #[] }])
  fields := #[{ name := "in", type := (.object "java/io/InputStream"), accessFlags := 25, slot := 0, constantValue := 0 }, { name := "out", type := (.object "java/io/PrintStream"), accessFlags := 25, slot := 1, constantValue := 0 }, { name := "err", type := (.object "java/io/PrintStream"), accessFlags := 25, slot := 2, constantValue := 0 }, { name := "initialIn", type := (.object "java/io/InputStream"), accessFlags := 10, slot := 3, constantValue := 0 }, { name := "NEVER", type := .int, accessFlags := 26, slot := 4, constantValue := 0 }, { name := "MAYBE", type := .int, accessFlags := 26, slot := 5, constantValue := 0 }, { name := "allowSecurityManager", type := .int, accessFlags := 10, slot := 6, constantValue := 0 }, { name := "security", type := (.object "java/lang/SecurityManager"), accessFlags := 74, slot := 7, constantValue := 0 }, { name := "notSupportedJnuEncoding", type := (.object "java/lang/String"), accessFlags := 10, slot := 8, constantValue := 0 }, { name := "cons", type := (.object "java/io/Console"), accessFlags := 74, slot := 9, constantValue := 0 }, { name := "initialErrStream", type := (.object "java/io/PrintStream"), accessFlags := 74, slot := 10, constantValue := 0 }, { name := "props", type := (.object "java/util/Properties"), accessFlags := 10, slot := 11, constantValue := 0 }, { name := "lineSeparator", type := (.object "java/lang/String"), accessFlags := 10, slot := 12, constantValue := 0 }, { name := "bootLayer", type := (.object "java/lang/ModuleLayer"), accessFlags := 8, slot := 13, constantValue := 0 }]
  methods := #[k16m0, k16m1]
  instanceTypes := #[]
  staticTypes := #[(.object "java/io/InputStream"), (.object "java/io/PrintStream"), (.object "java/io/PrintStream"), (.object "java/io/InputStream"), .int, .int, .int, (.object "java/lang/SecurityManager"), (.object "java/lang/String"), (.object "java/io/Console"), (.object "java/io/PrintStream"), (.object "java/util/Properties"), (.object "java/lang/String"), (.object "java/lang/ModuleLayer")]
  resolved := Array.replicate 834 none
  statics := none }

def pool17 : Array CpInfo := pool [(1, u "java/lang/Cloneable"), (0, .class_ 1), (0, u "java/lang/Object"), (0, .class_ 3)] 3

/-- java/lang/Cloneable -/
def k17 : Class := { plain "java/lang/Cloneable" (some 0) with
  accessFlags := 1537
  interfaces := #[]
  cf := some (fileOf pool17 2 #[] #[] 1537 4 #[] #[])
  fields := #[]
  methods := #[]
  instanceTypes := #[]
  staticTypes := #[]
  resolved := Array.replicate 8 none
  statics := none }

/-- the primitive byte -/
def k18 : Class := { plain "byte" none with kind := .primitive 'B', accessFlags := 0x411 }
/-- [B -/
def k19 : Class := { plain "[B" (some 0) with kind := .array 18 .byte, interfaces := #[17, 2], accessFlags := 1041 }

/-- the primitive char -/
def k20 : Class := { plain "char" none with kind := .primitive 'C', accessFlags := 0x411 }
/-- [C -/
def k21 : Class := { plain "[C" (some 0) with kind := .array 20 .char, interfaces := #[17, 2], accessFlags := 1041 }

/-- the primitive int -/
def k22 : Class := { plain "int" none with kind := .primitive 'I', accessFlags := 0x411 }
/-- [I -/
def k23 : Class := { plain "[I" (some 0) with kind := .array 22 .int, interfaces := #[17, 2], accessFlags := 1041 }

def heap : Heap := #[{ cls := 7, slots := #[.long 0, .int 1, .null, .int 0, .null, .int 0, .int 0], vm := .statics 7 },
  { cls := 14, slots := #[.null, .null, .null], vm := .statics 14 }]
def classes : Array Class := #[k0, k1, k2, k3, k4, k5, k6, k7, k8, k9, k10, k11, k12, k13, k14, k15, k16, k17, k18, k19, k20, k21, k22, k23]
def interned : List (Array UInt16 × Addr) := []
def slotsUsed : Nat := 10
def theMethod : MethodId := ⟨1, 1⟩
def args0 : Array Value := #[.int 15, .int 7, .int 9]
def aboutOver (below : List Frame) : State where
  vm := { classes := classes, interned := interned.toArray }
  heap := heap
  slotsUsed := slotsUsed
  threads := #[{ frames := .invoking theMethod args0 :: below }]
def below0 : List Frame := [.native { method := ⟨0, 0⟩, args := #[] }]
def about1 : State := aboutOver below0
def p0 : Program := .bare "" "" ""
def e0 : Env := launch0.env 0 0 0
theorem w_frames : about1.frames = Frame.invoking theMethod args0 :: below0 := rfl
set_option maxRecDepth 65536 in
theorem w_args : argsFit about1.vm theMethod args0 = true := by decide +kernel
set_option maxRecDepth 65536 in
theorem w_heap : heapFits about1 = true := by decide +kernel
set_option maxRecDepth 65536 in
theorem w_runnable : about1.curStatus? = some .runnable := by decide +kernel
set_option maxRecDepth 65536 in
theorem w_alone : about1.alone = true := by decide +kernel
set_option maxRecDepth 65536 in
theorem w_named : about1.methodNamed? x = some theMethod := by decide +kernel
set_option maxRecDepth 65536 in
theorem w_hears : about1.hears theMethod below0 = true := by decide +kernel
set_option maxRecDepth 65536 in
theorem w_ripe : about1.ripe theMethod args0 below0 = true := by decide +kernel
theorem w_running : about1.status = .running := rfl
set_option maxRecDepth 65536 in
theorem w_room : about1.hasRoom e0.platform room_1 = true :=
  launch0.hasRoom_least _ room_1 (by decide +kernel) (by decide +kernel) (by decide +kernel) (by decide +kernel) (by decide +kernel) (by decide +kernel)
theorem allAtoms_all (ts : List Jvm.Cond) (a : Array Jvm.Value) (st : Jvm.State) : (allAtoms ts).before a st = ts.all (fun c => c.before a st) := by
  induction ts with
  | nil => rfl
  | cons c t ih =>
    show (Jvm.Cond.and c (allAtoms t)).before a st = _
    rw [Jvm.Cond.before_and, ih, List.all_cons]
def words1 : List Jvm.Cond := Jvm.Cond.code x code maxLocals ret :: tables_1
/-- a 'code' word, met by the world's own term for the bytes: nothing is compared byte by byte -/
theorem code_word {y : MethodName} {bytes : ByteArray} {mx : Nat} {rt : Option FieldType} {a : Array Value} {s : State} {m : MethodId} {meth : Method} {c : Code} (h1 : s.methodNamed? y = some m) (h2 : s.vm.method? m = some meth) (h3 : meth.code = some c) (h4 : c.code = bytes)
    (h5 : (c.maxLocals == mx && c.exceptionTable.isEmpty && decide (c.maxStack ≤ mostOperands) && decide (meth.sig.returnType = rt) && !meth.locks && decide (parseMethodDescriptor y.desc = some meth.sig)) = true) : (Jvm.Cond.code y bytes mx rt).before a s = true := by
  simp only [Bool.and_eq_true, beq_iff_eq, Bool.not_eq_true', decide_eq_true_eq] at h5
  obtain ⟨⟨⟨⟨⟨g1, g2⟩, g3⟩, g4⟩, g5⟩, g6⟩ := h5
  simp [Cond.before, Cond.holds, Cond.value, h1, h2, h3, h4, g1, g2, g3, g4, g5, g6]
def isCode : Jvm.Cond → Bool
  | .code _ _ _ _ => true
  | _ => false
theorem all_split {L : List Jvm.Cond} {P : Jvm.Cond → Bool} (h1 : L.all (fun c => isCode c || P c) = true) (h2 : ∀ c ∈ L.filter isCode, P c = true) : L.all P = true := by
  refine List.all_eq_true.mpr fun c hc => ?_
  have h := List.all_eq_true.mp h1 c hc
  rcases Bool.eq_false_or_eq_true (isCode c) with hi | hi
  · exact h2 c (List.mem_filter.mpr ⟨hc, hi⟩)
  · simpa [hi] using h
set_option maxRecDepth 65536 in
theorem w_c0 : (Jvm.Cond.code x code maxLocals ret).before args0 about1 = true := code_word (m := ⟨1, 1⟩) (meth := k1m1) (c := k1c1) (by decide +kernel) rfl rfl rfl (by decide +kernel)
set_option maxRecDepth 65536 in
theorem w_c1 : (Jvm.Cond.code ({ cls := "com/example/mono_contract/monocontract/NumberTextIsIntegerPinLaw", name := "cut", desc := "([CI)Ljava/lang/String;" } : Jvm.MethodName) method_3_code (2 : Nat) (Option.some (Jvm.ClassFile.FieldType.object "java/lang/String"))).before args0 about1 = true := code_word (m := ⟨1, 2⟩) (meth := k1m2) (c := k1c2) (by decide +kernel) rfl rfl rfl (by decide +kernel)
set_option maxRecDepth 65536 in
theorem w_c2 : (Jvm.Cond.code ({ cls := "java/lang/String", name := "<init>", desc := "([C)V" } : Jvm.MethodName) jdk_42_method_3_code (2 : Nat) (Option.none : Option Jvm.ClassFile.FieldType)).before args0 about1 = true := code_word (m := ⟨7, 1⟩) (meth := k7m1) (c := k7c1) (by decide +kernel) rfl rfl rfl (by decide +kernel)
set_option maxRecDepth 65536 in
theorem w_c3 : (Jvm.Cond.code ({ cls := "java/lang/String", name := "<init>", desc := "([CIILjava/lang/Void;)V" } : Jvm.MethodName) jdk_42_method_149_code (6 : Nat) (Option.none : Option Jvm.ClassFile.FieldType)).before args0 about1 = true := code_word (m := ⟨7, 9⟩) (meth := k7m9) (c := k7c9) (by decide +kernel) rfl rfl rfl (by decide +kernel)
set_option maxRecDepth 65536 in
theorem w_c4 : (Jvm.Cond.code ({ cls := "java/lang/Object", name := "<init>", desc := "()V" } : Jvm.MethodName) object_method_1_code (1 : Nat) (Option.none : Option Jvm.ClassFile.FieldType)).before args0 about1 = true := code_word (m := ⟨0, 0⟩) (meth := k0m0) (c := k0c0) (by decide +kernel) rfl rfl rfl (by decide +kernel)
set_option maxRecDepth 65536 in
theorem w_c5 : (Jvm.Cond.code ({ cls := "java/lang/StringUTF16", name := "compress", desc := "([CII)[B" } : Jvm.MethodName) jdk_52_method_16_code (6 : Nat) (Option.some (Jvm.ClassFile.FieldType.array Jvm.ClassFile.FieldType.byte))).before args0 about1 = true := code_word (m := ⟨8, 2⟩) (meth := k8m2) (c := k8c2) (by decide +kernel) rfl rfl rfl (by decide +kernel)
set_option maxRecDepth 65536 in
theorem w_c6 : (Jvm.Cond.code ({ cls := "java/lang/StringUTF16", name := "compress", desc := "([CI[BII)I" } : Jvm.MethodName) jdk_52_method_21_code (7 : Nat) (Option.some Jvm.ClassFile.FieldType.int)).before args0 about1 = true := code_word (m := ⟨8, 3⟩) (meth := k8m3) (c := k8c3) (by decide +kernel) rfl rfl rfl (by decide +kernel)
set_option maxRecDepth 65536 in
theorem w_c7 : (Jvm.Cond.code ({ cls := "java/lang/StringUTF16", name := "coderFromArrayLen", desc := "([BI)B" } : Jvm.MethodName) jdk_52_method_15_code (2 : Nat) (Option.some Jvm.ClassFile.FieldType.byte)).before args0 about1 = true := code_word (m := ⟨8, 1⟩) (meth := k8m1) (c := k8c1) (by decide +kernel) rfl rfl rfl (by decide +kernel)
set_option maxRecDepth 65536 in
theorem w_c8 : (Jvm.Cond.code ({ cls := "com/example/mono_contract/monocontract/NumberText", name := "of", desc := "(Ljava/lang/String;)Lcom/example/mono_contract/monocontract/NumberText;" } : Jvm.MethodName) prog_8_method_2_code (8 : Nat) (Option.some (Jvm.ClassFile.FieldType.object "com/example/mono_contract/monocontract/NumberText"))).before args0 about1 = true := code_word (m := ⟨10, 1⟩) (meth := k10m1) (c := k10c1) (by decide +kernel) rfl rfl rfl (by decide +kernel)
set_option maxRecDepth 65536 in
theorem w_c9 : (Jvm.Cond.code ({ cls := "java/lang/String", name := "indexOf", desc := "(I)I" } : Jvm.MethodName) jdk_42_method_79_code (2 : Nat) (Option.some Jvm.ClassFile.FieldType.int)).before args0 about1 = true := code_word (m := ⟨7, 5⟩) (meth := k7m5) (c := k7c5) (by decide +kernel) rfl rfl rfl (by decide +kernel)
set_option maxRecDepth 65536 in
theorem w_c10 : (Jvm.Cond.code ({ cls := "java/lang/String", name := "indexOf", desc := "(II)I" } : Jvm.MethodName) jdk_42_method_80_code (3 : Nat) (Option.some Jvm.ClassFile.FieldType.int)).before args0 about1 = true := code_word (m := ⟨7, 6⟩) (meth := k7m6) (c := k7c6) (by decide +kernel) rfl rfl rfl (by decide +kernel)
set_option maxRecDepth 65536 in
theorem w_c11 : (Jvm.Cond.code ({ cls := "java/lang/String", name := "isLatin1", desc := "()Z" } : Jvm.MethodName) jdk_42_method_154_code (1 : Nat) (Option.some Jvm.ClassFile.FieldType.boolean)).before args0 about1 = true := code_word (m := ⟨7, 12⟩) (meth := k7m12) (c := k7c12) (by decide +kernel) rfl rfl rfl (by decide +kernel)
set_option maxRecDepth 65536 in
theorem w_c12 : (Jvm.Cond.code ({ cls := "java/lang/String", name := "length", desc := "()I" } : Jvm.MethodName) jdk_42_method_54_code (1 : Nat) (Option.some Jvm.ClassFile.FieldType.int)).before args0 about1 = true := code_word (m := ⟨7, 2⟩) (meth := k7m2) (c := k7c2) (by decide +kernel) rfl rfl rfl (by decide +kernel)
set_option maxRecDepth 65536 in
theorem w_c13 : (Jvm.Cond.code ({ cls := "java/lang/String", name := "coder", desc := "()B" } : Jvm.MethodName) jdk_42_method_152_code (1 : Nat) (Option.some Jvm.ClassFile.FieldType.byte)).before args0 about1 = true := code_word (m := ⟨7, 11⟩) (meth := k7m11) (c := k7c11) (by decide +kernel) rfl rfl rfl (by decide +kernel)
set_option maxRecDepth 65536 in
theorem w_c14 : (Jvm.Cond.code ({ cls := "java/lang/StringLatin1", name := "indexOf", desc := "([BIII)I" } : Jvm.MethodName) jdk_43_method_22_code (4 : Nat) (Option.some Jvm.ClassFile.FieldType.int)).before args0 about1 = true := code_word (m := ⟨11, 2⟩) (meth := k11m2) (c := k11c2) (by decide +kernel) rfl rfl rfl (by decide +kernel)
set_option maxRecDepth 65536 in
theorem w_c15 : (Jvm.Cond.code ({ cls := "java/lang/StringLatin1", name := "canEncode", desc := "(I)Z" } : Jvm.MethodName) jdk_43_method_4_code (1 : Nat) (Option.some Jvm.ClassFile.FieldType.boolean)).before args0 about1 = true := code_word (m := ⟨11, 1⟩) (meth := k11m1) (c := k11c1) (by decide +kernel) rfl rfl rfl (by decide +kernel)
set_option maxRecDepth 65536 in
theorem w_c16 : (Jvm.Cond.code ({ cls := "java/lang/Math", name := "max", desc := "(II)I" } : Jvm.MethodName) jdk_29_method_65_code (2 : Nat) (Option.some Jvm.ClassFile.FieldType.int)).before args0 about1 = true := code_word (m := ⟨12, 1⟩) (meth := k12m1) (c := k12c1) (by decide +kernel) rfl rfl rfl (by decide +kernel)
set_option maxRecDepth 65536 in
theorem w_c17 : (Jvm.Cond.code ({ cls := "java/lang/Math", name := "min", desc := "(II)I" } : Jvm.MethodName) jdk_29_method_69_code (2 : Nat) (Option.some Jvm.ClassFile.FieldType.int)).before args0 about1 = true := code_word (m := ⟨12, 2⟩) (meth := k12m2) (c := k12c2) (by decide +kernel) rfl rfl rfl (by decide +kernel)
set_option maxRecDepth 65536 in
theorem w_c18 : (Jvm.Cond.code ({ cls := "java/lang/StringLatin1", name := "indexOfChar", desc := "([BIII)I" } : Jvm.MethodName) jdk_43_method_23_code (6 : Nat) (Option.some Jvm.ClassFile.FieldType.int)).before args0 about1 = true := code_word (m := ⟨11, 3⟩) (meth := k11m3) (c := k11c3) (by decide +kernel) rfl rfl rfl (by decide +kernel)
set_option maxRecDepth 65536 in
theorem w_c19 : (Jvm.Cond.code ({ cls := "java/lang/String", name := "startsWith", desc := "(Ljava/lang/String;)Z" } : Jvm.MethodName) jdk_42_method_76_code (2 : Nat) (Option.some Jvm.ClassFile.FieldType.boolean)).before args0 about1 = true := code_word (m := ⟨7, 4⟩) (meth := k7m4) (c := k7c4) (by decide +kernel) rfl rfl rfl (by decide +kernel)
set_option maxRecDepth 65536 in
theorem w_c20 : (Jvm.Cond.code ({ cls := "java/lang/String", name := "startsWith", desc := "(Ljava/lang/String;I)Z" } : Jvm.MethodName) jdk_42_method_75_code (8 : Nat) (Option.some Jvm.ClassFile.FieldType.boolean)).before args0 about1 = true := code_word (m := ⟨7, 3⟩) (meth := k7m3) (c := k7c3) (by decide +kernel) rfl rfl rfl (by decide +kernel)
set_option maxRecDepth 65536 in
theorem w_c21 : (Jvm.Cond.code ({ cls := "jdk/internal/util/ArraysSupport", name := "mismatch", desc := "([BI[BII)I" } : Jvm.MethodName) jdk_48_method_14_code (8 : Nat) (Option.some Jvm.ClassFile.FieldType.int)).before args0 about1 = true := code_word (m := ⟨13, 1⟩) (meth := k13m1) (c := k13c1) (by decide +kernel) rfl rfl rfl (by decide +kernel)
set_option maxRecDepth 65536 in
theorem w_c22 : (Jvm.Cond.code ({ cls := "java/lang/String", name := "substring", desc := "(II)Ljava/lang/String;" } : Jvm.MethodName) jdk_42_method_92_code (5 : Nat) (Option.some (Jvm.ClassFile.FieldType.object "java/lang/String"))).before args0 about1 = true := code_word (m := ⟨7, 8⟩) (meth := k7m8) (c := k7c8) (by decide +kernel) rfl rfl rfl (by decide +kernel)
set_option maxRecDepth 65536 in
theorem w_c23 : (Jvm.Cond.code ({ cls := "java/lang/String", name := "checkBoundsBeginEnd", desc := "(III)V" } : Jvm.MethodName) jdk_42_method_158_code (3 : Nat) (Option.none : Option Jvm.ClassFile.FieldType)).before args0 about1 = true := code_word (m := ⟨7, 13⟩) (meth := k7m13) (c := k7c13) (by decide +kernel) rfl rfl rfl (by decide +kernel)
set_option maxRecDepth 65536 in
theorem w_c24 : (Jvm.Cond.code ({ cls := "jdk/internal/util/Preconditions", name := "checkFromToIndex", desc := "(IIILjava/util/function/BiFunction;)I" } : Jvm.MethodName) jdk_41_method_12_code (4 : Nat) (Option.some Jvm.ClassFile.FieldType.int)).before args0 about1 = true := code_word (m := ⟨14, 1⟩) (meth := k14m1) (c := k14c1) (by decide +kernel) rfl rfl rfl (by decide +kernel)
set_option maxRecDepth 65536 in
theorem w_c25 : (Jvm.Cond.code ({ cls := "com/example/mono_contract/monocontract/NumberText", name := "<init>", desc := "(Ljava/lang/String;ZLjava/lang/String;Ljava/lang/String;Ljava/lang/String;)V" } : Jvm.MethodName) prog_8_method_1_code (6 : Nat) (Option.none : Option Jvm.ClassFile.FieldType)).before args0 about1 = true := code_word (m := ⟨10, 0⟩) (meth := k10m0) (c := k10c0) (by decide +kernel) rfl rfl rfl (by decide +kernel)
set_option maxRecDepth 65536 in
theorem w_c26 : (Jvm.Cond.code ({ cls := "java/lang/Record", name := "<init>", desc := "()V" } : Jvm.MethodName) jdk_30_method_1_code (1 : Nat) (Option.none : Option Jvm.ClassFile.FieldType)).before args0 about1 = true := code_word (m := ⟨9, 0⟩) (meth := k9m0) (c := k9c0) (by decide +kernel) rfl rfl rfl (by decide +kernel)
set_option maxRecDepth 65536 in
theorem w_c27 : (Jvm.Cond.code ({ cls := "com/example/mono_contract/monocontract/NumberText", name := "isInteger", desc := "()Z" } : Jvm.MethodName) prog_8_method_3_code (1 : Nat) (Option.some Jvm.ClassFile.FieldType.boolean)).before args0 about1 = true := code_word (m := ⟨10, 2⟩) (meth := k10m2) (c := k10c2) (by decide +kernel) rfl rfl rfl (by decide +kernel)
set_option maxRecDepth 65536 in
theorem w_c28 : (Jvm.Cond.code ({ cls := "java/lang/StringLatin1", name := "newString", desc := "([BII)Ljava/lang/String;" } : Jvm.MethodName) jdk_43_method_47_code (3 : Nat) (Option.some (Jvm.ClassFile.FieldType.object "java/lang/String"))).before args0 about1 = true := code_word (m := ⟨11, 4⟩) (meth := k11m4) (c := k11c4) (by decide +kernel) rfl rfl rfl (by decide +kernel)
set_option maxRecDepth 65536 in
theorem w_c29 : (Jvm.Cond.code ({ cls := "java/util/Arrays", name := "copyOfRange", desc := "([BII)[B" } : Jvm.MethodName) jdk_65_method_132_code (3 : Nat) (Option.some (Jvm.ClassFile.FieldType.array Jvm.ClassFile.FieldType.byte))).before args0 about1 = true := code_word (m := ⟨15, 2⟩) (meth := k15m2) (c := k15c2) (by decide +kernel) rfl rfl rfl (by decide +kernel)
set_option maxRecDepth 65536 in
theorem w_c30 : (Jvm.Cond.code ({ cls := "java/util/Arrays", name := "copyOfRangeByte", desc := "([BII)[B" } : Jvm.MethodName) jdk_65_method_133_code (5 : Nat) (Option.some (Jvm.ClassFile.FieldType.array Jvm.ClassFile.FieldType.byte))).before args0 about1 = true := code_word (m := ⟨15, 3⟩) (meth := k15m3) (c := k15c3) (by decide +kernel) rfl rfl rfl (by decide +kernel)
set_option maxRecDepth 65536 in
theorem w_c31 : (Jvm.Cond.code ({ cls := "java/util/Arrays", name := "checkLength", desc := "(II)V" } : Jvm.MethodName) jdk_65_method_131_code (2 : Nat) (Option.none : Option Jvm.ClassFile.FieldType)).before args0 about1 = true := code_word (m := ⟨15, 1⟩) (meth := k15m1) (c := k15c1) (by decide +kernel) rfl rfl rfl (by decide +kernel)
set_option maxRecDepth 65536 in
theorem w_c32 : (Jvm.Cond.code ({ cls := "java/lang/String", name := "<init>", desc := "([BB)V" } : Jvm.MethodName) jdk_42_method_151_code (3 : Nat) (Option.none : Option Jvm.ClassFile.FieldType)).before args0 about1 = true := code_word (m := ⟨7, 10⟩) (meth := k7m10) (c := k7c10) (by decide +kernel) rfl rfl rfl (by decide +kernel)
set_option maxRecDepth 65536 in
theorem w_c33 : (Jvm.Cond.code ({ cls := "java/lang/String", name := "substring", desc := "(I)Ljava/lang/String;" } : Jvm.MethodName) jdk_42_method_91_code (2 : Nat) (Option.some (Jvm.ClassFile.FieldType.object "java/lang/String"))).before args0 about1 = true := code_word (m := ⟨7, 7⟩) (meth := k7m7) (c := k7c7) (by decide +kernel) rfl rfl rfl (by decide +kernel)
def codes1 : List Jvm.Cond := [Jvm.Cond.code x code maxLocals ret, Jvm.Cond.code ({ cls := "com/example/mono_contract/monocontract/NumberTextIsIntegerPinLaw", name := "cut", desc := "([CI)Ljava/lang/String;" } : Jvm.MethodName) method_3_code (2 : Nat) (Option.some (Jvm.ClassFile.FieldType.object "java/lang/String")), Jvm.Cond.code ({ cls := "java/lang/String", name := "<init>", desc := "([C)V" } : Jvm.MethodName) jdk_42_method_3_code (2 : Nat) (Option.none : Option Jvm.ClassFile.FieldType), Jvm.Cond.code ({ cls := "java/lang/String", name := "<init>", desc := "([CIILjava/lang/Void;)V" } : Jvm.MethodName) jdk_42_method_149_code (6 : Nat) (Option.none : Option Jvm.ClassFile.FieldType), Jvm.Cond.code ({ cls := "java/lang/Object", name := "<init>", desc := "()V" } : Jvm.MethodName) object_method_1_code (1 : Nat) (Option.none : Option Jvm.ClassFile.FieldType), Jvm.Cond.code ({ cls := "java/lang/StringUTF16", name := "compress", desc := "([CII)[B" } : Jvm.MethodName) jdk_52_method_16_code (6 : Nat) (Option.some (Jvm.ClassFile.FieldType.array Jvm.ClassFile.FieldType.byte)), Jvm.Cond.code ({ cls := "java/lang/StringUTF16", name := "compress", desc := "([CI[BII)I" } : Jvm.MethodName) jdk_52_method_21_code (7 : Nat) (Option.some Jvm.ClassFile.FieldType.int), Jvm.Cond.code ({ cls := "java/lang/StringUTF16", name := "coderFromArrayLen", desc := "([BI)B" } : Jvm.MethodName) jdk_52_method_15_code (2 : Nat) (Option.some Jvm.ClassFile.FieldType.byte), Jvm.Cond.code ({ cls := "com/example/mono_contract/monocontract/NumberText", name := "of", desc := "(Ljava/lang/String;)Lcom/example/mono_contract/monocontract/NumberText;" } : Jvm.MethodName) prog_8_method_2_code (8 : Nat) (Option.some (Jvm.ClassFile.FieldType.object "com/example/mono_contract/monocontract/NumberText")), Jvm.Cond.code ({ cls := "java/lang/String", name := "indexOf", desc := "(I)I" } : Jvm.MethodName) jdk_42_method_79_code (2 : Nat) (Option.some Jvm.ClassFile.FieldType.int), Jvm.Cond.code ({ cls := "java/lang/String", name := "indexOf", desc := "(II)I" } : Jvm.MethodName) jdk_42_method_80_code (3 : Nat) (Option.some Jvm.ClassFile.FieldType.int), Jvm.Cond.code ({ cls := "java/lang/String", name := "isLatin1", desc := "()Z" } : Jvm.MethodName) jdk_42_method_154_code (1 : Nat) (Option.some Jvm.ClassFile.FieldType.boolean), Jvm.Cond.code ({ cls := "java/lang/String", name := "length", desc := "()I" } : Jvm.MethodName) jdk_42_method_54_code (1 : Nat) (Option.some Jvm.ClassFile.FieldType.int), Jvm.Cond.code ({ cls := "java/lang/String", name := "coder", desc := "()B" } : Jvm.MethodName) jdk_42_method_152_code (1 : Nat) (Option.some Jvm.ClassFile.FieldType.byte), Jvm.Cond.code ({ cls := "java/lang/StringLatin1", name := "indexOf", desc := "([BIII)I" } : Jvm.MethodName) jdk_43_method_22_code (4 : Nat) (Option.some Jvm.ClassFile.FieldType.int), Jvm.Cond.code ({ cls := "java/lang/StringLatin1", name := "canEncode", desc := "(I)Z" } : Jvm.MethodName) jdk_43_method_4_code (1 : Nat) (Option.some Jvm.ClassFile.FieldType.boolean), Jvm.Cond.code ({ cls := "java/lang/Math", name := "max", desc := "(II)I" } : Jvm.MethodName) jdk_29_method_65_code (2 : Nat) (Option.some Jvm.ClassFile.FieldType.int), Jvm.Cond.code ({ cls := "java/lang/Math", name := "min", desc := "(II)I" } : Jvm.MethodName) jdk_29_method_69_code (2 : Nat) (Option.some Jvm.ClassFile.FieldType.int), Jvm.Cond.code ({ cls := "java/lang/StringLatin1", name := "indexOfChar", desc := "([BIII)I" } : Jvm.MethodName) jdk_43_method_23_code (6 : Nat) (Option.some Jvm.ClassFile.FieldType.int), Jvm.Cond.code ({ cls := "java/lang/String", name := "startsWith", desc := "(Ljava/lang/String;)Z" } : Jvm.MethodName) jdk_42_method_76_code (2 : Nat) (Option.some Jvm.ClassFile.FieldType.boolean), Jvm.Cond.code ({ cls := "java/lang/String", name := "startsWith", desc := "(Ljava/lang/String;I)Z" } : Jvm.MethodName) jdk_42_method_75_code (8 : Nat) (Option.some Jvm.ClassFile.FieldType.boolean), Jvm.Cond.code ({ cls := "jdk/internal/util/ArraysSupport", name := "mismatch", desc := "([BI[BII)I" } : Jvm.MethodName) jdk_48_method_14_code (8 : Nat) (Option.some Jvm.ClassFile.FieldType.int), Jvm.Cond.code ({ cls := "java/lang/String", name := "substring", desc := "(II)Ljava/lang/String;" } : Jvm.MethodName) jdk_42_method_92_code (5 : Nat) (Option.some (Jvm.ClassFile.FieldType.object "java/lang/String")), Jvm.Cond.code ({ cls := "java/lang/String", name := "checkBoundsBeginEnd", desc := "(III)V" } : Jvm.MethodName) jdk_42_method_158_code (3 : Nat) (Option.none : Option Jvm.ClassFile.FieldType), Jvm.Cond.code ({ cls := "jdk/internal/util/Preconditions", name := "checkFromToIndex", desc := "(IIILjava/util/function/BiFunction;)I" } : Jvm.MethodName) jdk_41_method_12_code (4 : Nat) (Option.some Jvm.ClassFile.FieldType.int), Jvm.Cond.code ({ cls := "com/example/mono_contract/monocontract/NumberText", name := "<init>", desc := "(Ljava/lang/String;ZLjava/lang/String;Ljava/lang/String;Ljava/lang/String;)V" } : Jvm.MethodName) prog_8_method_1_code (6 : Nat) (Option.none : Option Jvm.ClassFile.FieldType), Jvm.Cond.code ({ cls := "java/lang/Record", name := "<init>", desc := "()V" } : Jvm.MethodName) jdk_30_method_1_code (1 : Nat) (Option.none : Option Jvm.ClassFile.FieldType), Jvm.Cond.code ({ cls := "com/example/mono_contract/monocontract/NumberText", name := "isInteger", desc := "()Z" } : Jvm.MethodName) prog_8_method_3_code (1 : Nat) (Option.some Jvm.ClassFile.FieldType.boolean), Jvm.Cond.code ({ cls := "java/lang/StringLatin1", name := "newString", desc := "([BII)Ljava/lang/String;" } : Jvm.MethodName) jdk_43_method_47_code (3 : Nat) (Option.some (Jvm.ClassFile.FieldType.object "java/lang/String")), Jvm.Cond.code ({ cls := "java/util/Arrays", name := "copyOfRange", desc := "([BII)[B" } : Jvm.MethodName) jdk_65_method_132_code (3 : Nat) (Option.some (Jvm.ClassFile.FieldType.array Jvm.ClassFile.FieldType.byte)), Jvm.Cond.code ({ cls := "java/util/Arrays", name := "copyOfRangeByte", desc := "([BII)[B" } : Jvm.MethodName) jdk_65_method_133_code (5 : Nat) (Option.some (Jvm.ClassFile.FieldType.array Jvm.ClassFile.FieldType.byte)), Jvm.Cond.code ({ cls := "java/util/Arrays", name := "checkLength", desc := "(II)V" } : Jvm.MethodName) jdk_65_method_131_code (2 : Nat) (Option.none : Option Jvm.ClassFile.FieldType), Jvm.Cond.code ({ cls := "java/lang/String", name := "<init>", desc := "([BB)V" } : Jvm.MethodName) jdk_42_method_151_code (3 : Nat) (Option.none : Option Jvm.ClassFile.FieldType), Jvm.Cond.code ({ cls := "java/lang/String", name := "substring", desc := "(I)Ljava/lang/String;" } : Jvm.MethodName) jdk_42_method_91_code (2 : Nat) (Option.some (Jvm.ClassFile.FieldType.object "java/lang/String"))]
set_option maxRecDepth 65536 in
theorem codes_eq : words1.filter isCode = codes1 := rfl
theorem w_codes : ∀ c ∈ words1.filter isCode, c.before args0 about1 = true := by
  rw [codes_eq]
  intro c hc
  simp only [codes1, List.mem_cons, List.not_mem_nil, or_false] at hc
  rcases hc with rfl | rfl | rfl | rfl | rfl | rfl | rfl | rfl | rfl | rfl | rfl | rfl | rfl | rfl | rfl | rfl | rfl | rfl | rfl | rfl | rfl | rfl | rfl | rfl | rfl | rfl | rfl | rfl | rfl | rfl | rfl | rfl | rfl | rfl
  · exact w_c0
  · exact w_c1
  · exact w_c2
  · exact w_c3
  · exact w_c4
  · exact w_c5
  · exact w_c6
  · exact w_c7
  · exact w_c8
  · exact w_c9
  · exact w_c10
  · exact w_c11
  · exact w_c12
  · exact w_c13
  · exact w_c14
  · exact w_c15
  · exact w_c16
  · exact w_c17
  · exact w_c18
  · exact w_c19
  · exact w_c20
  · exact w_c21
  · exact w_c22
  · exact w_c23
  · exact w_c24
  · exact w_c25
  · exact w_c26
  · exact w_c27
  · exact w_c28
  · exact w_c29
  · exact w_c30
  · exact w_c31
  · exact w_c32
  · exact w_c33
set_option maxRecDepth 65536 in
theorem w_t1 : (words1.take 24).all (fun c => isCode c || c.before args0 about1) = true := by decide +kernel
set_option maxRecDepth 65536 in
theorem w_t2 : ((words1.drop 24).take 24).all (fun c => isCode c || c.before args0 about1) = true := by decide +kernel
set_option maxRecDepth 65536 in
theorem w_t3 : (((words1.drop 24).drop 24).take 24).all (fun c => isCode c || c.before args0 about1) = true := by decide +kernel
set_option maxRecDepth 65536 in
theorem w_t4 : ((((words1.drop 24).drop 24).drop 24).take 24).all (fun c => isCode c || c.before args0 about1) = true := by decide +kernel
set_option maxRecDepth 65536 in
theorem w_t5 : (((((words1.drop 24).drop 24).drop 24).drop 24).take 24).all (fun c => isCode c || c.before args0 about1) = true := by decide +kernel
set_option maxRecDepth 65536 in
theorem w_t6 : ((((((words1.drop 24).drop 24).drop 24).drop 24).drop 24).take 24).all (fun c => isCode c || c.before args0 about1) = true := by decide +kernel
set_option maxRecDepth 65536 in
theorem w_t7 : (((((((words1.drop 24).drop 24).drop 24).drop 24).drop 24).drop 24).take 24).all (fun c => isCode c || c.before args0 about1) = true := by decide +kernel
set_option maxRecDepth 65536 in
theorem w_t8 : (((((((words1.drop 24).drop 24).drop 24).drop 24).drop 24).drop 24).drop 24).all (fun c => isCode c || c.before args0 about1) = true := by decide +kernel
theorem w_tables : (allAtoms (Jvm.Cond.code x code maxLocals ret :: tables_1)).before args0 about1 = true := by
  rw [allAtoms_all]
  show words1.all (fun c => c.before args0 about1) = true
  refine all_split ?_ w_codes
  rw [← List.take_append_drop 24 words1, List.all_append, w_t1, ← List.take_append_drop 24 (words1.drop 24), List.all_append, w_t2, ← List.take_append_drop 24 ((words1.drop 24).drop 24), List.all_append, w_t3, ← List.take_append_drop 24 (((words1.drop 24).drop 24).drop 24), List.all_append, w_t4, ← List.take_append_drop 24 ((((words1.drop 24).drop 24).drop 24).drop 24), List.all_append, w_t5, ← List.take_append_drop 24 (((((words1.drop 24).drop 24).drop 24).drop 24).drop 24), List.all_append, w_t6, ← List.take_append_drop 24 ((((((words1.drop 24).drop 24).drop 24).drop 24).drop 24).drop 24), List.all_append, w_t7, w_t8]
  rfl
set_option maxRecDepth 65536 in
theorem w_rest : rest_1_c.before args0 about1 = true := by decide +kernel
set_option maxRecDepth 65536 in
theorem w_case : (Jvm.Cond.and given_1 narrow_1).before args0 about1 = true := by decide +kernel
set_option maxRecDepth 65536 in
theorem w_consts : constsHeld consts_1 about1 := Jvm.Lit.constsHeldB_iff.mp (by decide +kernel)
theorem w_applies : (headSpec (Jvm.Cond.code x code maxLocals ret :: tables_1) room_1).applies x e0.platform about1 = true :=
  (Spec.applies_iff w_frames).mpr ⟨w_running, w_runnable, w_alone, w_named, w_hears, w_ripe, w_room, w_tables⟩
theorem atStart : AtStart classFile x code maxLocals ret World_1 tables_1 room_1 Calls_1 rest_1 Pre_1 launch0 p0 e0 about1 theMethod args0 below0 :=
  ⟨lists_1, trivial, launch0.admits_env _ _ _, launch0.least_env, fairChoices_fair.cas, fairChoices_fair.clock, w_frames, w_args, w_heap, w_applies, ⟨w_consts, trivial⟩, w_rest, w_case⟩
end start1
theorem witness_1 : WitnessClaimed_1 := ⟨start1.p0, start1.e0, start1.about1, start1.theMethod, start1.args0, start1.below0, start1.atStart⟩
end Jvm.Pilot.@@N@@
