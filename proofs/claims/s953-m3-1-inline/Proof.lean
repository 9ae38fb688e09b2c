import JvmDerived
import JvmDerived.Pilot.@@N@@Statement
import JvmDerived.Pilot.@@N@@Code
set_option linter.unusedVariables false
set_option linter.unusedSimpArgs false
namespace Jvm.Pilot.@@N@@.Kw
open Jvm Jvm.ClassFile Sem Op Lib Jvm.Free Jvm.Stand Jvm.LawKit Jvm.RoadKit Bundle
/-! ## a walk by weakest preconditions over the road kit's family: the state, the tables and the intern table are hidden; what is seen is the heap, the own cells W, the room used, pc, locals, stack -/
abbrev Mth := MethodName × ByteArray × Nat × Option FieldType
def Cx (M : Mth) (p : Program) (meth : Method) (c : Code) : Prop := p.tables.exec = Jvm.exec ∧ c.code = M.2.1 ∧ c.maxLocals = M.2.2.1 ∧ meth.sig.returnType = M.2.2.2 ∧ meth.locks = false ∧ meth.name = M.1.name
def Own (Z : State) (EL : List (String × Nat)) (vm : Vm) (h : Heap) (W : List Addr) : Prop := ∀ a ∈ W, Z.heap.size ≤ a ∧ a < h.size ∧ Safe Z EL vm h a
def Hid (l : Launch) (Z : State) (EL : List (String × Nat)) (M : Mth) (R : Room) (p : Program) (e : Env) (s : State) (m : MethodId) (args : Array Value) (below : List Frame) (meth : Method) (c : Code) (T : State) (vm0 : Vm) (h : Heap) (W : List Addr) (k n : Nat) : Prop :=
  ∃ locs k0, Stand p l e R (s.setVm vm0) m args below meth c T locs k n ∧ T.heap = h ∧ s.Since vm0 k0 ∧ k0 ≤ h.size ∧ Z.Warmed39 vm0 ∧ vm0.findClass M.1.cls = some m.cls ∧ CHr Z EL s.vm s.heap vm0 h ∧ Fr Z.heap.size locs ∧ Own Z EL vm0 h W ∧ k ≤ R.cells ∧ n ≤ R.slots ∧ Ext Z.heap h ∧ (EL = [] → s.WarmedH vm0) ∧ ∃ a0, EW Z a0 EL
def Done (Z : State) (EL : List (String × Nat)) (R : Room) (p : Program) (e : Env) (s : State) (below : List Frame) (S : State) (Q : Option Value → Heap → List Addr → Prop) : Prop :=
  ∃ s₂ v L Wo, Steps p.tables e below S s₂ ∧ s₂.status = .running ∧ Ended s₂ below (.returned v) ∧ Q v s₂.heap Wo ∧ Own Z EL s₂.vm s₂.heap Wo ∧ Fr Z.heap.size L ∧ CHr Z EL s.vm s.heap s₂.vm s₂.heap ∧ Ext Z.heap s₂.heap ∧ (EL = [] → s.WarmedH s₂.vm) ∧ ReturnedEndW s (.returned v) s₂ L R.cells R.slots
def Wx (l : Launch) (Z : State) (EL : List (String × Nat)) (M : Mth) (R : Room) (h : Heap) (W : List Addr) (k n pc : Nat) (Ls : Array Slot) (st : List Value) (Q : Option Value → Heap → List Addr → Prop) : Prop :=
  ∀ p e s m args below meth c, Cx M p meth c → ∀ T vm0, Hid l Z EL M R p e s m args below meth c T vm0 h W k n → Done Z EL R p e s below (T.setTop (mkF m pc Ls st)) Q
abbrev Wp (l : Launch) (Z : State) (EL : List (String × Nat)) (M : Mth) (R : Room) (h : Heap) (W : List Addr) (k n pc : Nat) (Ls : Array Slot) (st : List Value) (Q : Option Value → Heap → Prop) : Prop := Wx l Z EL M R h W k n pc Ls st (fun v h' _ => Q v h')
def CxW (ws : List Jvm.Cond) (l : Launch) (Z : State) (EL : List (String × Nat)) (M : Mth) (rm : Room) (as : Array Value) (h : Heap) (W : List Addr) (Q : Option Value → Heap → List Addr → Prop) : Prop :=
  MetFree l M.1 (head1 (Jvm.Cond.code M.1 M.2.1 M.2.2.1 M.2.2.2 :: ws) rm) (fun a U => a = as ∧ Z.Warmed39 U.vm ∧ U.heap = h ∧ CHv Z EL U.vm h ∧ Own Z EL U.vm h W ∧ Ext Z.heap h) (fun _ _ _ _ _ => True)
    (fun _ U o U' => ∃ v L Wo, o = .returned v ∧ Q v U'.heap Wo ∧ Own Z EL U'.vm U'.heap Wo ∧ Fr Z.heap.size L ∧ CHr Z EL U.vm U.heap U'.vm U'.heap ∧ Ext Z.heap U'.heap ∧ (EL = [] → U.WarmedH U'.vm) ∧ ReturnedEndW U o U' L rm.cells rm.slots)
abbrev CtW (ws : List Jvm.Cond) (l : Launch) (Z : State) (EL : List (String × Nat)) (M : Mth) (rm : Room) (as : Array Value) (h : Heap) (W : List Addr) (Q : Option Value → Heap → Prop) : Prop := CxW ws l Z EL M rm as h W (fun v h' _ => Q v h')
abbrev Ct := CtW []
abbrev Ct3 := CxW []
theorem Done.pre {Z : State} {EL : List (String × Nat)} {R : Room} {p : Program} {e : Env} {s : State} {below : List Frame} {S S' : State} {Q : Option Value → Heap → List Addr → Prop} (st : ∀ t, Steps p.tables e below S' t → Steps p.tables e below S t) (D : Done Z EL R p e s below S' Q) : Done Z EL R p e s below S Q := by
  obtain ⟨s₂, v, L, Wo, h1, r⟩ := D
  exact ⟨s₂, v, L, Wo, st _ h1, r⟩
section Steps
variable {l : Launch} {Z : State} {EL : List (String × Nat)} {M : Mth} {R : Room} {h : Heap} {W : List Addr} {k n pc : Nat} {Ls : Array Slot} {st : List Value} {Q : Option Value → Heap → List Addr → Prop} {a0 : Array Value}
/-! ### entering -/
theorem Own.nil {vm : Vm} : Own Z EL vm h [] := fun _ q => nomatch q
theorem Ct.of_wp {ws : List Jvm.Cond} {rm : Room} {as : Array Value} (hp : plainFor M.1 = true) (hEL : EW Z a0 EL) (hls : Jvm.Sym.laidSlots as.toList ++ List.replicate (M.2.2.1 - (Jvm.Sym.laidSlots as.toList).length) .unset = Ls.toList) (K : Wx l Z EL M rm h W 0 0 0 Ls [] Q) : CxW ws l Z EL M rm as h W Q := by
  refine MetFree.of_bodySF hp hisR ?_
  intro p e s m args below meth c s₁ Bd hml0 hP hK
  obtain ⟨rfl, hZ, hh, hC, hO, hX⟩ := hP
  have X0 : Stand p l e rm s m args below meth c s₁ [] 0 0 := Stand.of_body Bd
  have e0 : s₁.heap = h := by rw [← hh, Bd.state]; rfl
  obtain ⟨s₂, v, L, Wo, h1, h2, h3, h4, h5, h6, h7, h8⟩ := K p e s m args below meth c ⟨Bd.exec, Bd.bytes, hml0, Bd.returns, Bd.notSynchronized, (name_of_methodNamed Bd.named Bd.method).1⟩ s₁ s.vm
    ⟨[], 0, X0, e0, (State.WarmedH.refl s).since _, Nat.zero_le _, hZ, findClass_of_methodNamed Bd.named, by rw [hh]; exact CHr.refl hC, Fr.nil _, hO, Nat.zero_le _, Nat.zero_le _, hX, fun _ => State.WarmedH.refl s, a0, hEL⟩
  exact ⟨s₂, _, (Jvm.Free.XT.entry hls).trans h1, h2, h3, v, L, Wo, rfl, h4, h5, h6, h7, h8⟩
/-! ### plain steps -/
theorem Wp.pure {pc' : Nat} {Ls' : Array Slot} {st' : List Value} (hs : ∀ {tb : Tables} [Ours tb] {e : Env} {below : List Frame} {T : State} {m : MethodId} {c : Code} {target : State}, At T m c below → tb.exec = Jvm.exec → c.code = M.2.1 → Steps tb e below (T.setTop (mkF m pc' Ls' st')) target → Steps tb e below (T.setTop (mkF m pc Ls st)) target)
    (K : Wx l Z EL M R h W k n pc' Ls' st' Q) : Wx l Z EL M R h W k n pc Ls st Q := by
  intro p e s m args below meth c hc T vm0 H
  obtain ⟨locs, k0, X, r⟩ := id H
  exact (K p e s m args below meth c hc T vm0 H).pre fun t q => hs X.here hc.1 hc.2.1 q
def ush (x y : Int32) : Int32 := (x.toUInt32 >>> (y &&& 31).toUInt32).toInt32
def c16 (x : Int32) : Int32 := x.toUInt32.toUInt16.toUInt32.toInt32
def lo8 (x : Int32) : Int32 := x.toInt8.toInt32
def nx (len need pc : Nat) (Ls : Array Slot) (st : List Value) : Option (Nat × Array Slot × List Value) := if len = need then some (pc + need, Ls, st) else none
def ld1 (Ls : Array Slot) (i : Nat) : Option Value := match Ls[i]? with | some (.val v) => some v | _ => none
def isI : Value → Bool | .int _ => true | _ => false
def isL : Value → Bool | .long _ => true | _ => false
def ldv (P : Value → Bool) (need len pc : Nat) (Ls : Array Slot) (st : List Value) (i : Nat) : Option (Nat × Array Slot × List Value) := match ld1 Ls i with | some v => if P v = true then nx len need pc Ls (v :: st) else none | none => none
def stv (P : Value → Bool) (need len pc : Nat) (Ls : Array Slot) (st : List Value) (i : Nat) : Option (Nat × Array Slot × List Value) := match st with | v :: r => (if P v = true then (match storeLocals Ls i v with | some l' => nx len need pc l' r | none => none) else none) | [] => none
def i2 (f : Int32 → Int32 → Int32) (len pc : Nat) (Ls : Array Slot) (st : List Value) : Option (Nat × Array Slot × List Value) := match st with | .int y :: .int x :: r => nx len 1 pc Ls (.int (f x y) :: r) | _ => none
def l2 (f : Int64 → Int64 → Int64) (len pc : Nat) (Ls : Array Slot) (st : List Value) : Option (Nat × Array Slot × List Value) := match st with | .long y :: .long x :: r => nx len 1 pc Ls (.long (f x y) :: r) | _ => none
def li2 (f : Int64 → Int32 → Int64) (len pc : Nat) (Ls : Array Slot) (st : List Value) : Option (Nat × Array Slot × List Value) := match st with | .int y :: .long x :: r => nx len 1 pc Ls (.long (f x y) :: r) | _ => none
def i1 (f : Int32 → Value) (len pc : Nat) (Ls : Array Slot) (st : List Value) : Option (Nat × Array Slot × List Value) := match st with | .int x :: r => nx len 1 pc Ls (f x :: r) | _ => none
def l1 (f : Int64 → Value) (len pc : Nat) (Ls : Array Slot) (st : List Value) : Option (Nat × Array Slot × List Value) := match st with | .long x :: r => nx len 1 pc Ls (f x :: r) | _ => none
def stepS (i : Instr) (len pc : Nat) (Ls : Array Slot) (st : List Value) : Option (Nat × Array Slot × List Value) :=
  match i with
  | .aload_n k => ldv Value.isRef 1 len pc Ls st k.val
  | .aload k => ldv Value.isRef 2 len pc Ls st k
  | .iload_n k => ldv isI 1 len pc Ls st k.val
  | .iload k => ldv isI 2 len pc Ls st k
  | .lload_n k => ldv isL 1 len pc Ls st k.val
  | .lload k => ldv isL 2 len pc Ls st k
  | .astore_n k => stv Value.isRef 1 len pc Ls st k.val
  | .astore k => stv Value.isRef 2 len pc Ls st k
  | .istore_n k => stv isI 1 len pc Ls st k.val
  | .istore k => stv isI 2 len pc Ls st k
  | .lstore_n k => stv isL 1 len pc Ls st k.val
  | .lstore k => stv isL 2 len pc Ls st k
  | .iconst i => nx len 1 pc Ls (.int (Int32.ofInt i) :: st)
  | .lconst k => nx len 1 pc Ls (.long (Int64.ofNat k) :: st)
  | .bipush i => nx len 2 pc Ls (.int (Int8.ofInt i).toInt32 :: st)
  | .sipush i => nx len 3 pc Ls (.int (Int16.ofInt i).toInt32 :: st)
  | .aconst_null => nx len 1 pc Ls (.null :: st)
  | .iadd => i2 (· + ·) len pc Ls st
  | .isub => i2 (· - ·) len pc Ls st
  | .imul => i2 (· * ·) len pc Ls st
  | .iand => i2 (· &&& ·) len pc Ls st
  | .ior => i2 (· ||| ·) len pc Ls st
  | .ixor => i2 (· ^^^ ·) len pc Ls st
  | .ishl => i2 (fun x y => x <<< (y &&& 31)) len pc Ls st
  | .ishr => i2 (fun x y => x >>> (y &&& 31)) len pc Ls st
  | .iushr => i2 ush len pc Ls st
  | .ladd => l2 (· + ·) len pc Ls st
  | .lsub => l2 (· - ·) len pc Ls st
  | .lmul => l2 (· * ·) len pc Ls st
  | .land => l2 (· &&& ·) len pc Ls st
  | .lor => l2 (· ||| ·) len pc Ls st
  | .lshl => li2 (fun x y => x <<< (y.toInt64 &&& 63)) len pc Ls st
  | .lushr => li2 (fun x y => Jvm.Free.XT.ushrL x y) len pc Ls st
  | .lcmp => (match st with | .long y :: .long x :: r => nx len 1 pc Ls (.int (Jvm.Free.XT.cmpL x y) :: r) | _ => none)
  | .ineg => i1 (fun x => .int (-x)) len pc Ls st
  | .lneg => l1 (fun x => .long (-x)) len pc Ls st
  | .i2l => i1 (fun x => .long x.toInt64) len pc Ls st
  | .l2i => l1 (fun x => .int x.toInt32) len pc Ls st
  | .i2b => i1 (fun x => .int (lo8 x)) len pc Ls st
  | .i2c => i1 (fun x => .int (c16 x)) len pc Ls st
  | .i2s => i1 (fun x => .int x.toInt16.toInt32) len pc Ls st
  | .dup => (match st with | x :: r => (if x.category = 1 then nx len 1 pc Ls (x :: x :: r) else none) | _ => none)
  | .dup_x1 => (match st with | x :: y :: r => (if x.category = 1 ∧ y.category = 1 then nx len 1 pc Ls (x :: y :: x :: r) else none) | _ => none)
  | .dup2 => (match st with | x :: y :: r => (if x.category = 1 ∧ y.category = 1 then nx len 1 pc Ls (x :: y :: x :: y :: r) else none) | _ => none)
  | .pop => (match st with | x :: r => (if x.category = 1 then nx len 1 pc Ls r else none) | _ => none)
  | .iinc k cst => (match ld1 Ls k with | some (.int x) => (match storeLocals Ls k (.int (x + Int32.ofInt cst)) with | some l' => nx len 3 pc l' st | none => none) | _ => none)
  | .goto o => (if len = 3 ∧ 0 ≤ (pc : Int) + o then some (((pc : Int) + o).toNat, Ls, st) else none)
  | _ => none
theorem nx_inv {len need pc pc' : Nat} {Ls Ls' : Array Slot} {st st' : List Value} (h : nx len need pc Ls st = some (pc', Ls', st')) : len = need ∧ pc + need = pc' ∧ Ls = Ls' ∧ st = st' := by
  unfold nx at h; split at h
  · rename_i q; simp only [Option.some.injEq, Prod.mk.injEq] at h; exact ⟨q, h.1, h.2.1, h.2.2⟩
  · cases h
theorem ld1_inv {Ls : Array Slot} {i : Nat} {v : Value} (h : ld1 Ls i = some v) : Ls[i]? = some (.val v) := by
  unfold ld1 at h; split at h
  · rename_i q; cases h; exact q
  · cases h
theorem ldv_inv {P : Value → Bool} {need len pc pc' i : Nat} {Ls Ls' : Array Slot} {st st' : List Value} (h : ldv P need len pc Ls st i = some (pc', Ls', st')) : ∃ v, Ls[i]? = some (.val v) ∧ P v = true ∧ len = need ∧ pc + need = pc' ∧ Ls = Ls' ∧ v :: st = st' := by
  unfold ldv at h; split at h
  · rename_i v q; split at h
    · rename_i hp; exact ⟨v, ld1_inv q, hp, nx_inv h⟩
    · cases h
  · cases h
theorem stv_inv {P : Value → Bool} {need len pc pc' i : Nat} {Ls Ls' : Array Slot} {st st' : List Value} (h : stv P need len pc Ls st i = some (pc', Ls', st')) : ∃ v, st = v :: st' ∧ P v = true ∧ storeLocals Ls i v = some Ls' ∧ len = need ∧ pc + need = pc' := by
  unfold stv at h; split at h
  · split at h
    · rename_i hp; split at h
      · rename_i q; obtain ⟨a, b, rfl, rfl⟩ := nx_inv h; exact ⟨_, rfl, hp, q, a, b⟩
      · cases h
    · cases h
  · cases h
theorem i2_inv {f : Int32 → Int32 → Int32} {len pc pc' : Nat} {Ls Ls' : Array Slot} {st st' : List Value} (h : i2 f len pc Ls st = some (pc', Ls', st')) : ∃ x y r, st = .int y :: .int x :: r ∧ len = 1 ∧ pc + 1 = pc' ∧ Ls = Ls' ∧ .int (f x y) :: r = st' := by
  unfold i2 at h; split at h
  · exact ⟨_, _, _, rfl, nx_inv h⟩
  · cases h
theorem l2_inv {f : Int64 → Int64 → Int64} {len pc pc' : Nat} {Ls Ls' : Array Slot} {st st' : List Value} (h : l2 f len pc Ls st = some (pc', Ls', st')) : ∃ x y r, st = .long y :: .long x :: r ∧ len = 1 ∧ pc + 1 = pc' ∧ Ls = Ls' ∧ .long (f x y) :: r = st' := by
  unfold l2 at h; split at h
  · exact ⟨_, _, _, rfl, nx_inv h⟩
  · cases h
theorem li2_inv {f : Int64 → Int32 → Int64} {len pc pc' : Nat} {Ls Ls' : Array Slot} {st st' : List Value} (h : li2 f len pc Ls st = some (pc', Ls', st')) : ∃ x y r, st = .int y :: .long x :: r ∧ len = 1 ∧ pc + 1 = pc' ∧ Ls = Ls' ∧ .long (f x y) :: r = st' := by
  unfold li2 at h; split at h
  · exact ⟨_, _, _, rfl, nx_inv h⟩
  · cases h
theorem i1_inv {f : Int32 → Value} {len pc pc' : Nat} {Ls Ls' : Array Slot} {st st' : List Value} (h : i1 f len pc Ls st = some (pc', Ls', st')) : ∃ x r, st = .int x :: r ∧ len = 1 ∧ pc + 1 = pc' ∧ Ls = Ls' ∧ f x :: r = st' := by
  unfold i1 at h; split at h
  · exact ⟨_, _, rfl, nx_inv h⟩
  · cases h
theorem l1_inv {f : Int64 → Value} {len pc pc' : Nat} {Ls Ls' : Array Slot} {st st' : List Value} (h : l1 f len pc Ls st = some (pc', Ls', st')) : ∃ x r, st = .long x :: r ∧ len = 1 ∧ pc + 1 = pc' ∧ Ls = Ls' ∧ f x :: r = st' := by
  unfold l1 at h; split at h
  · exact ⟨_, _, rfl, nx_inv h⟩
  · cases h
theorem isI_inv {v : Value} (h : isI v = true) : ∃ x, v = .int x := by cases v <;> simp [isI] at h ⊢
theorem isL_inv {v : Value} (h : isL v = true) : ∃ x, v = .long x := by cases v <;> simp [isL] at h ⊢
theorem step_sound {tb : Tables} [Ours tb] {e : Env} {below : List Frame} {T : State} {m : MethodId} {c : Code} {target : State} (hA : At T m c below) (hx : tb.exec = Jvm.exec) {i : Instr} {len pc pc' : Nat} {Ls Ls' : Array Slot} {st st' : List Value} (hd : decode c.code pc = .ok (i, len)) (hs : stepS i len pc Ls st = some (pc', Ls', st'))
    (hr : Steps tb e below (T.setTop (mkF m pc' Ls' st')) target) : Steps tb e below (T.setTop (mkF m pc Ls st)) target := by
  cases i
  case aload_n k => obtain ⟨v, h1, h2, rfl, rfl, rfl, rfl⟩ := ldv_inv hs; exact XS.aloadN hA hx rfl hd h1 h2 hr
  case aload k => obtain ⟨v, h1, h2, rfl, rfl, rfl, rfl⟩ := ldv_inv hs; exact XS.aload hA hx rfl hd h1 h2 hr
  case iload_n k => obtain ⟨v, h1, h2, rfl, rfl, rfl, rfl⟩ := ldv_inv hs; obtain ⟨x, rfl⟩ := isI_inv h2; exact XS.iloadN hA hx rfl hd h1 hr
  case iload k => obtain ⟨v, h1, h2, rfl, rfl, rfl, rfl⟩ := ldv_inv hs; obtain ⟨x, rfl⟩ := isI_inv h2; exact XS.iload hA hx rfl hd h1 hr
  case lload_n k => obtain ⟨v, h1, h2, rfl, rfl, rfl, rfl⟩ := ldv_inv hs; obtain ⟨x, rfl⟩ := isL_inv h2; exact XT.lloadN hA hx rfl hd h1 hr
  case lload k => obtain ⟨v, h1, h2, rfl, rfl, rfl, rfl⟩ := ldv_inv hs; obtain ⟨x, rfl⟩ := isL_inv h2; exact XT.lload hA hx rfl hd h1 hr
  case astore_n k => obtain ⟨v, rfl, h2, h3, rfl, rfl⟩ := stv_inv hs; exact XS.astoreN hA hx rfl hd rfl h2 h3 hr
  case astore k => obtain ⟨v, rfl, h2, h3, rfl, rfl⟩ := stv_inv hs; exact XS.astore hA hx rfl hd rfl h2 h3 hr
  case istore_n k => obtain ⟨v, rfl, h2, h3, rfl, rfl⟩ := stv_inv hs; obtain ⟨x, rfl⟩ := isI_inv h2; exact XS.istoreN hA hx rfl hd rfl h3 hr
  case istore k => obtain ⟨v, rfl, h2, h3, rfl, rfl⟩ := stv_inv hs; obtain ⟨x, rfl⟩ := isI_inv h2; exact XS.istore hA hx rfl hd rfl h3 hr
  case lstore_n k => obtain ⟨v, rfl, h2, h3, rfl, rfl⟩ := stv_inv hs; obtain ⟨x, rfl⟩ := isL_inv h2; exact XT.lstoreN hA hx rfl hd rfl h3 hr
  case lstore k => obtain ⟨v, rfl, h2, h3, rfl, rfl⟩ := stv_inv hs; obtain ⟨x, rfl⟩ := isL_inv h2; exact XT.lstore hA hx rfl hd rfl h3 hr
  case iconst i => obtain ⟨rfl, rfl, rfl, rfl⟩ := nx_inv hs; exact XS.iconst hA hx rfl hd hr
  case lconst i => obtain ⟨rfl, rfl, rfl, rfl⟩ := nx_inv hs; exact XT.lconst hA hx rfl hd hr
  case bipush i => obtain ⟨rfl, rfl, rfl, rfl⟩ := nx_inv hs; exact XS.bipush hA hx rfl hd hr
  case sipush i => obtain ⟨rfl, rfl, rfl, rfl⟩ := nx_inv hs; exact XS.sipush hA hx rfl hd hr
  case aconst_null => obtain ⟨rfl, rfl, rfl, rfl⟩ := nx_inv hs; exact XS.aconstNull hA hx rfl hd hr
  case iadd => obtain ⟨x, y, r, rfl, rfl, rfl, rfl, rfl⟩ := i2_inv hs; exact XS.iadd hA hx rfl hd rfl hr
  case isub => obtain ⟨x, y, r, rfl, rfl, rfl, rfl, rfl⟩ := i2_inv hs; exact XS.isub hA hx rfl hd rfl hr
  case imul => obtain ⟨x, y, r, rfl, rfl, rfl, rfl, rfl⟩ := i2_inv hs; exact XS.imul hA hx rfl hd rfl hr
  case iand => obtain ⟨x, y, r, rfl, rfl, rfl, rfl, rfl⟩ := i2_inv hs; exact XS.iand hA hx rfl hd rfl hr
  case ior => obtain ⟨x, y, r, rfl, rfl, rfl, rfl, rfl⟩ := i2_inv hs; exact XT.ior hA hx rfl hd rfl hr
  case ixor => obtain ⟨x, y, r, rfl, rfl, rfl, rfl, rfl⟩ := i2_inv hs; exact XT.ixor hA hx rfl hd rfl hr
  case ishl => obtain ⟨x, y, r, rfl, rfl, rfl, rfl, rfl⟩ := i2_inv hs; exact XT.ishl hA hx rfl hd rfl hr
  case ishr => obtain ⟨x, y, r, rfl, rfl, rfl, rfl, rfl⟩ := i2_inv hs; exact XT.ishr hA hx rfl hd rfl hr
  case iushr => obtain ⟨x, y, r, rfl, rfl, rfl, rfl, rfl⟩ := i2_inv hs; exact XT.iushr hA hx rfl hd rfl hr
  case ladd => obtain ⟨x, y, r, rfl, rfl, rfl, rfl, rfl⟩ := l2_inv hs; exact XT.ladd hA hx rfl hd rfl hr
  case lsub => obtain ⟨x, y, r, rfl, rfl, rfl, rfl, rfl⟩ := l2_inv hs; exact XT.lsub hA hx rfl hd rfl hr
  case lmul => obtain ⟨x, y, r, rfl, rfl, rfl, rfl, rfl⟩ := l2_inv hs; exact XT.lmul hA hx rfl hd rfl hr
  case land => obtain ⟨x, y, r, rfl, rfl, rfl, rfl, rfl⟩ := l2_inv hs; exact XT.land hA hx rfl hd rfl hr
  case lor => obtain ⟨x, y, r, rfl, rfl, rfl, rfl, rfl⟩ := l2_inv hs; exact XT.lor hA hx rfl hd rfl hr
  case lshl => obtain ⟨x, y, r, rfl, rfl, rfl, rfl, rfl⟩ := li2_inv hs; exact XT.lshl hA hx rfl hd rfl hr
  case lushr => obtain ⟨x, y, r, rfl, rfl, rfl, rfl, rfl⟩ := li2_inv hs; exact XT.lushr hA hx rfl hd rfl hr
  case lcmp =>
    simp only [stepS] at hs; split at hs
    · obtain ⟨rfl, rfl, rfl, rfl⟩ := nx_inv hs; exact XT.lcmp hA hx rfl hd rfl hr
    · cases hs
  case ineg => obtain ⟨x, r, rfl, rfl, rfl, rfl, rfl⟩ := i1_inv hs; exact XS.ineg hA hx rfl hd rfl hr
  case lneg => obtain ⟨x, r, rfl, rfl, rfl, rfl, rfl⟩ := l1_inv hs; exact XT.lneg hA hx rfl hd rfl hr
  case i2l => obtain ⟨x, r, rfl, rfl, rfl, rfl, rfl⟩ := i1_inv hs; exact XT.i2l hA hx rfl hd rfl hr
  case l2i => obtain ⟨x, r, rfl, rfl, rfl, rfl, rfl⟩ := l1_inv hs; exact XT.l2i hA hx rfl hd rfl hr
  case i2b => obtain ⟨x, r, rfl, rfl, rfl, rfl, rfl⟩ := i1_inv hs; exact XT.i2b hA hx rfl hd rfl hr
  case i2c => obtain ⟨x, r, rfl, rfl, rfl, rfl, rfl⟩ := i1_inv hs; exact XT.i2c hA hx rfl hd rfl hr
  case i2s => obtain ⟨x, r, rfl, rfl, rfl, rfl, rfl⟩ := i1_inv hs; exact XT.i2s hA hx rfl hd rfl hr
  case dup =>
    simp only [stepS] at hs; split at hs
    · split at hs
      · rename_i q; obtain ⟨rfl, rfl, rfl, rfl⟩ := nx_inv hs; exact XS.dup hA hx rfl hd rfl q hr
      · cases hs
    · cases hs
  case dup_x1 =>
    simp only [stepS] at hs; split at hs
    · split at hs
      · rename_i q; obtain ⟨rfl, rfl, rfl, rfl⟩ := nx_inv hs; exact XT.dupX1 hA hx rfl hd rfl q.1 q.2 hr
      · cases hs
    · cases hs
  case dup2 =>
    simp only [stepS] at hs; split at hs
    · split at hs
      · rename_i q; obtain ⟨rfl, rfl, rfl, rfl⟩ := nx_inv hs; exact XT.dup2 hA hx rfl hd rfl q.1 q.2 hr
      · cases hs
    · cases hs
  case pop =>
    simp only [stepS] at hs; split at hs
    · split at hs
      · rename_i q; obtain ⟨rfl, rfl, rfl, rfl⟩ := nx_inv hs; exact XT.pop hA hx rfl hd rfl q hr
      · cases hs
    · cases hs
  case iinc k cst =>
    simp only [stepS] at hs; split at hs
    · rename_i q; split at hs
      · rename_i q2; obtain ⟨rfl, rfl, rfl, rfl⟩ := nx_inv hs; exact XS.iinc hA hx rfl hd (ld1_inv q) q2 hr
      · cases hs
    · cases hs
  case goto o =>
    simp only [stepS] at hs; split at hs
    · rename_i q; simp only [Option.some.injEq, Prod.mk.injEq] at hs; obtain ⟨rfl, rfl, rfl⟩ := hs; obtain ⟨rfl, q⟩ := q; exact XS.goto hA hx rfl (pc0 := pc) rfl hd q rfl hr
    · cases hs
  all_goals (exfalso; simp [stepS] at hs)
/-- the instructions of a body, told once -/
abbrev Tab := List (Nat × Instr × Nat)
def TabOk (code : ByteArray) (tb : Tab) : Prop := ∀ x ∈ tb, decode code x.1 = .ok x.2
def fnd (tb : Tab) (pc : Nat) : Option (Instr × Nat) := match tb with | [] => none | x :: r => if x.1 = pc then some x.2 else fnd r pc
theorem fnd_ok {code : ByteArray} : ∀ {tb : Tab}, TabOk code tb → ∀ {pc : Nat} {x : Instr × Nat}, fnd tb pc = some x → decode code pc = .ok x
  | [], _, _, _, h => by cases h
  | y :: r, ok, pc, x, h => by
    unfold fnd at h; split at h
    · rename_i q; cases h; rw [← q]; exact ok y (List.mem_cons_self ..)
    · exact fnd_ok (fun z hz => ok z (List.mem_cons_of_mem _ hz)) h
def runS (tb : Tab) : Nat → Nat → Array Slot → List Value → Option (Nat × Array Slot × List Value)
  | 0, pc, Ls, st => some (pc, Ls, st)
  | f + 1, pc, Ls, st => match fnd tb pc with
    | some (i, len) => (match stepS i len pc Ls st with | some (pc', Ls', st') => runS tb f pc' Ls' st' | none => none)
    | none => none
theorem run_sound {tbl : Tab} {tb : Tables} [Ours tb] {e : Env} {below : List Frame} {T : State} {m : MethodId} {c : Code} {target : State} (ok : TabOk c.code tbl) (hA : At T m c below) (hx : tb.exec = Jvm.exec) : ∀ (f : Nat) {pc pc' : Nat} {Ls Ls' : Array Slot} {st st' : List Value}, runS tbl f pc Ls st = some (pc', Ls', st') →
    Steps tb e below (T.setTop (mkF m pc' Ls' st')) target → Steps tb e below (T.setTop (mkF m pc Ls st)) target
  | 0, pc, pc', Ls, Ls', st, st', h, hr => by
    simp only [runS, Option.some.injEq, Prod.mk.injEq] at h; obtain ⟨rfl, rfl, rfl⟩ := h; exact hr
  | f + 1, pc, pc', Ls, Ls', st, st', h, hr => by
    unfold runS at h; split at h
    · rename_i i len q; split at h
      · rename_i q2; exact step_sound hA hx (fnd_ok ok q) q2 (run_sound ok hA hx f h hr)
      · cases h
    · cases h
theorem Wp.run {tb : Tab} (ok : TabOk M.2.1 tb) (f : Nat) (pc' : Nat) (Ls' : Array Slot) (st' : List Value) (hs : runS tb f pc Ls st = some (pc', Ls', st')) (K : Wx l Z EL M R h W k n pc' Ls' st' Q) : Wx l Z EL M R h W k n pc Ls st Q :=
  Wp.pure (fun hA hx hb hr => run_sound (by rw [hb]; exact ok) hA hx f hs hr) K
theorem Wp.at (Ls' : Array Slot) (st' : List Value) (q : Ls = Ls' ∧ st = st') (K : Wx l Z EL M R h W k n pc Ls' st' Q) : Wx l Z EL M R h W k n pc Ls st Q := by
  obtain ⟨rfl, rfl⟩ := q; exact K
/-- a slot that a value of one word may be stored over -/
def Sl1 (o : Slot) : Prop := o = .unset ∨ ∃ w, o = .val w ∧ w.category = 1
theorem Sl1.unset : Sl1 .unset := Or.inl rfl
theorem Sl1.int (x : Int32) : Sl1 (.val (.int x)) := Or.inr ⟨_, rfl, rfl⟩
theorem Sl1.ref (x : Addr) : Sl1 (.val (.ref x)) := Or.inr ⟨_, rfl, rfl⟩
theorem Wp.istoreS {tb : Tab} (ok : TabOk M.2.1 tb) {i : Nat} {x : Int32} {rest : List Value} {o : Slot} (ho : Sl1 o) (hf : fnd tb pc = some (.istore i, 2)) (hst : st = .int x :: rest) (hold : Ls[i]? = some o) (K : Wx l Z EL M R h W k n (pc + 2) (Ls.setIfInBounds i (.val (.int x))) rest Q) : Wx l Z EL M R h W k n pc Ls st Q := by
  subst hst
  exact Wp.pure (fun hA hx hb hr => XS.istoreS hA hx rfl (by rw [hb]; exact fnd_ok ok hf) rfl hold ho hr) K
theorem Wp.istoreNS {tb : Tab} (ok : TabOk M.2.1 tb) {i : Fin 4} {x : Int32} {rest : List Value} {o : Slot} (ho : Sl1 o) (hf : fnd tb pc = some (.istore_n i, 1)) (hst : st = .int x :: rest) (hold : Ls[i.val]? = some o) (K : Wx l Z EL M R h W k n (pc + 1) (Ls.setIfInBounds i.val (.val (.int x))) rest Q) : Wx l Z EL M R h W k n pc Ls st Q := by
  subst hst
  exact Wp.pure (fun hA hx hb hr => XS.istoreNS hA hx rfl (by rw [hb]; exact fnd_ok ok hf) rfl hold ho hr) K
theorem Wp.astoreS {tb : Tab} (ok : TabOk M.2.1 tb) {i : Nat} {x : Addr} {rest : List Value} {o : Slot} (ho : Sl1 o) (hf : fnd tb pc = some (.astore i, 2)) (hst : st = .ref x :: rest) (hold : Ls[i]? = some o) (K : Wx l Z EL M R h W k n (pc + 2) (Ls.setIfInBounds i (.val (.ref x))) rest Q) : Wx l Z EL M R h W k n pc Ls st Q := by
  subst hst
  exact Wp.pure (fun hA hx hb hr => XS.astoreS hA hx rfl (by rw [hb]; exact fnd_ok ok hf) rfl rfl rfl hold ho hr) K
end Steps
end Jvm.Pilot.@@N@@.Kw
namespace Jvm.Pilot.@@N@@.Kw
open Jvm Jvm.ClassFile Sem Op Lib Jvm.Free Jvm.Stand Jvm.LawKit Jvm.RoadKit Bundle
section Rules
variable {l : Launch} {Z : State} {EL : List (String × Nat)} {M : Mth} {R : Room} {h : Heap} {W : List Addr} {k n pc : Nat} {Ls : Array Slot} {st : List Value} {Q : Option Value → Heap → List Addr → Prop} {a0 : Array Value} {tb : Tab}
theorem ext_trans {h1 h2 h3 : Heap} (E : Ext h1 h2) (F : Ext h2 h3) : Ext h1 h3 := ⟨Nat.le_trans E.1 F.1, fun a c q => F.2 a c (E.2 a c q)⟩
theorem ext_refl (h : Heap) : Ext h h := ⟨Nat.le_refl _, fun _ _ q => q⟩
theorem ext_keep {h1 h2 h3 : Heap} {ws : List Addr} (E : Ext h1 h2) (K : Keep h2 h3 ws) (q : ∀ x ∈ ws, h1.size ≤ x) : Ext h1 h3 := ⟨Nat.le_trans E.1 K.1, fun a c r => K.2.1 a c (E.2 a c r) fun z => absurd (Array.getElem?_eq_some_iff.mp r).1 (Nat.not_lt.mpr (q a z))⟩
theorem ext_wr {h1 h2 h3 : Heap} {a : Addr} {sl : Nat} {v : Value} (E : Ext h1 h2) (K : Wr h2 h3 a sl v) (q : h1.size ≤ a) : Ext h1 h3 := ext_keep E (Keep.of_wr K) (allS q all0)
theorem Own.later {vm vm1 : Vm} {h h' : Heap} (C : CHr Z EL vm h vm1 h') (O : Own Z EL vm h W) : Own Z EL vm1 h' W := fun a ha => by
  obtain ⟨q1, q2, q3⟩ := O a ha
  exact ⟨q1, Nat.lt_of_lt_of_le q2 C.2.1, C.safe q2 q3⟩
theorem Wp.old (K : Ext Z.heap h → Wx l Z EL M R h W k n pc Ls st Q) : Wx l Z EL M R h W k n pc Ls st Q := by
  intro p e s m args below meth c hc T vm0 H
  obtain ⟨locs, k0, X, eT, hS, hk, hZ, hown, hC, hN, hO, q1, q2, hX, hWH, hEL⟩ := id H
  exact K hX p e s m args below meth c hc T vm0 H
theorem Own.app {vm : Vm} {W W' : List Addr} (A : Own Z EL vm h W) (B : Own Z EL vm h W') : Own Z EL vm h (W ++ W') := fun a ha => (List.mem_append.mp ha).elim (A a) (B a)
theorem Wp.up {k' n' : Nat} {W' : List Addr} (hk : k ≤ k') (hn : n ≤ n') (hk' : k' ≤ R.cells) (hn' : n' ≤ R.slots) (hW : ∀ a ∈ W', a ∈ W) (K : Wx l Z EL M R h W' k' n' pc Ls st Q) : Wx l Z EL M R h W k n pc Ls st Q := by
  intro p e s m args below meth c hc T vm0 H
  obtain ⟨locs, k0, X, eT, hS, hk, hZ, hown, hC, hN, hO, q1, q2, r⟩ := H
  exact K p e s m args below meth c hc T vm0 ⟨locs, k0, X.mono (by omega) (by omega), eT, hS, hk, hZ, hown, hC, hN, fun a ha => hO a (hW a ha), hk', hn', r⟩
theorem Wp.conseq {Q' : Option Value → Heap → List Addr → Prop} (K : Wx l Z EL M R h W k n pc Ls st Q') (i : ∀ v h' Wo, Q' v h' Wo → Q v h' Wo) : Wx l Z EL M R h W k n pc Ls st Q := by
  intro p e s m args below meth c hc T vm0 H
  obtain ⟨s₂, v, L, Wo, h1, h2, h3, h4, r⟩ := K p e s m args below meth c hc T vm0 H
  exact ⟨s₂, v, L, Wo, h1, h2, h3, i _ _ _ h4, r⟩
theorem Ct.conseq {rm : Room} {as : Array Value} {Q Q' : Option Value → Heap → Prop} (K : Ct l Z EL M rm as h W Q') (i : ∀ v h', Q' v h' → Q v h') : Ct l Z EL M rm as h W Q := by
  intro p e ha hc hk s m args below hf happ hP hK
  obtain ⟨nn, o, q1, q2, q3, v, L, Wo, q4, q5, r⟩ := K p e ha hc hk s m args below hf happ hP hK
  exact ⟨nn, o, q1, q2, q3, v, L, Wo, q4, i _ _ q5, r⟩
/-! ### branches -/
def cdP : ClassFile.Cond → Int32 → Int32 → Prop
  | .eq, x, y => x = y | .ne, x, y => ¬ x = y | .lt, x, y => x < y | .ge, x, y => ¬ x < y | .gt, x, y => y < x | .le, x, y => ¬ y < x
def cdN : ClassFile.Cond → Int32 → Int32 → Prop
  | .eq, x, y => ¬ x = y | .ne, x, y => x = y | .lt, x, y => ¬ x < y | .ge, x, y => x < y | .gt, x, y => ¬ y < x | .le, x, y => y < x
theorem cd_em (cd : ClassFile.Cond) (x y : Int32) : cdP cd x y ∨ cdN cd x y := by cases cd <;> simp only [cdP, cdN] <;> first | exact Decidable.em _ | exact (Decidable.em _).symm
theorem cdP_t {cd : ClassFile.Cond} {x y : Int32} (q : cdP cd x y) : if_icmp.holds cd x y = true := by
  cases cd
  · exact XT.ii_eq_t q
  · exact XT.ii_ne_t q
  · exact XT.ii_lt_t q
  · exact XT.ii_ge_t q
  · exact XT.ii_gt_t q
  · exact XT.ii_le_t q
theorem cdN_f {cd : ClassFile.Cond} {x y : Int32} (q : cdN cd x y) : if_icmp.holds cd x y = false := by
  cases cd
  · exact XT.ii_eq_f q
  · exact XT.ii_ne_f q
  · exact XT.ii_lt_f q
  · exact XT.ii_ge_f q
  · exact XT.ii_gt_f q
  · exact XT.ii_le_f q
theorem cd0_t {cd : ClassFile.Cond} {x : Int32} (q : cdP cd x 0) : ifCond.holds cd x = true := by
  cases cd
  · exact XT.i0_eq_t q
  · exact XT.i0_ne_t q
  · exact XT.i0_lt_t q
  · exact XT.i0_ge_t q
  · exact XT.i0_gt_t q
  · exact XT.i0_le_t q
theorem cd0_f {cd : ClassFile.Cond} {x : Int32} (q : cdN cd x 0) : ifCond.holds cd x = false := by
  cases cd
  · exact XT.i0_eq_f q
  · exact XT.i0_ne_f q
  · exact XT.i0_lt_f q
  · exact XT.i0_ge_f q
  · exact XT.i0_gt_f q
  · exact XT.i0_le_f q
theorem Wp.icmpT (ok : TabOk M.2.1 tb) {cd : ClassFile.Cond} {o : Int} {x y : Int32} {rest : List Value} (pc' : Nat) (hf : fnd tb pc = some (.if_icmp cd o, 3)) (hst : st = .int y :: .int x :: rest) (hc : cdP cd x y) (ho : 0 ≤ (pc : Int) + o) (hp : ((pc : Int) + o).toNat = pc') (K : Wx l Z EL M R h W k n pc' Ls rest Q) : Wx l Z EL M R h W k n pc Ls st Q := by
  subst hst
  exact Wp.pure (fun hA hx hb hr => XS.icmpYes hA hx rfl (pc0 := pc) rfl (by rw [hb]; exact fnd_ok ok hf) rfl (cdP_t hc) ho hp hr) K
theorem Wp.icmpF (ok : TabOk M.2.1 tb) {cd : ClassFile.Cond} {o : Int} {x y : Int32} {rest : List Value} (hf : fnd tb pc = some (.if_icmp cd o, 3)) (hst : st = .int y :: .int x :: rest) (hc : cdN cd x y) (K : Wx l Z EL M R h W k n (pc + 3) Ls rest Q) : Wx l Z EL M R h W k n pc Ls st Q := by
  subst hst
  exact Wp.pure (fun hA hx hb hr => XS.icmpNo hA hx rfl (by rw [hb]; exact fnd_ok ok hf) rfl (cdN_f hc) hr) K
theorem Wp.icmp (ok : TabOk M.2.1 tb) {cd : ClassFile.Cond} {o : Int} {x y : Int32} {rest : List Value} (pc' : Nat) (hf : fnd tb pc = some (.if_icmp cd o, 3)) (hst : st = .int y :: .int x :: rest) (ho : 0 ≤ (pc : Int) + o) (hp : ((pc : Int) + o).toNat = pc') (K1 : cdP cd x y → Wx l Z EL M R h W k n pc' Ls rest Q) (K2 : cdN cd x y → Wx l Z EL M R h W k n (pc + 3) Ls rest Q) : Wx l Z EL M R h W k n pc Ls st Q :=
  (cd_em cd x y).elim (fun q => Wp.icmpT ok pc' hf hst q ho hp (K1 q)) (fun q => Wp.icmpF ok hf hst q (K2 q))
theorem Wp.ifT (ok : TabOk M.2.1 tb) {cd : ClassFile.Cond} {o : Int} {x : Int32} {rest : List Value} (pc' : Nat) (hf : fnd tb pc = some (.ifCond cd o, 3)) (hst : st = .int x :: rest) (hc : cdP cd x 0) (ho : 0 ≤ (pc : Int) + o) (hp : ((pc : Int) + o).toNat = pc') (K : Wx l Z EL M R h W k n pc' Ls rest Q) : Wx l Z EL M R h W k n pc Ls st Q := by
  subst hst
  exact Wp.pure (fun hA hx hb hr => XS.ifYes hA hx rfl (pc0 := pc) rfl (by rw [hb]; exact fnd_ok ok hf) rfl (cd0_t hc) ho hp hr) K
theorem Wp.ifF (ok : TabOk M.2.1 tb) {cd : ClassFile.Cond} {o : Int} {x : Int32} {rest : List Value} (hf : fnd tb pc = some (.ifCond cd o, 3)) (hst : st = .int x :: rest) (hc : cdN cd x 0) (K : Wx l Z EL M R h W k n (pc + 3) Ls rest Q) : Wx l Z EL M R h W k n pc Ls st Q := by
  subst hst
  exact Wp.pure (fun hA hx hb hr => XS.ifNo hA hx rfl (by rw [hb]; exact fnd_ok ok hf) rfl (cd0_f hc) hr) K
theorem Wp.if0 (ok : TabOk M.2.1 tb) {cd : ClassFile.Cond} {o : Int} {x : Int32} {rest : List Value} (pc' : Nat) (hf : fnd tb pc = some (.ifCond cd o, 3)) (hst : st = .int x :: rest) (ho : 0 ≤ (pc : Int) + o) (hp : ((pc : Int) + o).toNat = pc') (K1 : cdP cd x 0 → Wx l Z EL M R h W k n pc' Ls rest Q) (K2 : cdN cd x 0 → Wx l Z EL M R h W k n (pc + 3) Ls rest Q) : Wx l Z EL M R h W k n pc Ls st Q :=
  (cd_em cd x 0).elim (fun q => Wp.ifT ok pc' hf hst q ho hp (K1 q)) (fun q => Wp.ifF ok hf hst q (K2 q))
theorem Wp.nullT (ok : TabOk M.2.1 tb) {o : Int} {rest : List Value} (pc' : Nat) (hf : fnd tb pc = some (.ifnull o, 3)) (hst : st = .null :: rest) (ho : 0 ≤ (pc : Int) + o) (hp : ((pc : Int) + o).toNat = pc') (K : Wx l Z EL M R h W k n pc' Ls rest Q) : Wx l Z EL M R h W k n pc Ls st Q := by
  subst hst
  exact Wp.pure (fun hA hx hb hr => XS.ifnullYes hA hx rfl (pc0 := pc) rfl (by rw [hb]; exact fnd_ok ok hf) rfl ho hp hr) K
theorem Wp.nullF (ok : TabOk M.2.1 tb) {o : Int} {a : Addr} {rest : List Value} (hf : fnd tb pc = some (.ifnull o, 3)) (hst : st = .ref a :: rest) (K : Wx l Z EL M R h W k n (pc + 3) Ls rest Q) : Wx l Z EL M R h W k n pc Ls st Q := by
  subst hst
  exact Wp.pure (fun hA hx hb hr => XS.ifnullNo hA hx rfl (by rw [hb]; exact fnd_ok ok hf) rfl hr) K
theorem Wp.nonnullT (ok : TabOk M.2.1 tb) {o : Int} {a : Addr} {rest : List Value} (pc' : Nat) (hf : fnd tb pc = some (.ifnonnull o, 3)) (hst : st = .ref a :: rest) (ho : 0 ≤ (pc : Int) + o) (hp : ((pc : Int) + o).toNat = pc') (K : Wx l Z EL M R h W k n pc' Ls rest Q) : Wx l Z EL M R h W k n pc Ls st Q := by
  subst hst
  exact Wp.pure (fun hA hx hb hr => XT.ifnonnullYes hA hx rfl (pc0 := pc) rfl (by rw [hb]; exact fnd_ok ok hf) rfl ho hp hr) K
theorem Wp.nonnullF (ok : TabOk M.2.1 tb) {o : Int} {rest : List Value} (hf : fnd tb pc = some (.ifnonnull o, 3)) (hst : st = .null :: rest) (K : Wx l Z EL M R h W k n (pc + 3) Ls rest Q) : Wx l Z EL M R h W k n pc Ls st Q := by
  subst hst
  exact Wp.pure (fun hA hx hb hr => XT.ifnonnullNo hA hx rfl (by rw [hb]; exact fnd_ok ok hf) rfl hr) K
theorem Wp.acmpT (ok : TabOk M.2.1 tb) {cd : ACond} {o : Int} {x y : Value} {rest : List Value} (pc' : Nat) (hf : fnd tb pc = some (.if_acmp cd o, 3)) (hst : st = y :: x :: rest) (h1 : x.isRef = true) (h2 : y.isRef = true) (hc : XT.acmp cd x y = true) (ho : 0 ≤ (pc : Int) + o) (hp : ((pc : Int) + o).toNat = pc') (K : Wx l Z EL M R h W k n pc' Ls rest Q) : Wx l Z EL M R h W k n pc Ls st Q := by
  subst hst
  exact Wp.pure (fun hA hx hb hr => XT.acmpYes hA hx rfl (pc0 := pc) rfl (by rw [hb]; exact fnd_ok ok hf) rfl h1 h2 hc ho hp hr) K
theorem Wp.acmpF (ok : TabOk M.2.1 tb) {cd : ACond} {o : Int} {x y : Value} {rest : List Value} (hf : fnd tb pc = some (.if_acmp cd o, 3)) (hst : st = y :: x :: rest) (h1 : x.isRef = true) (h2 : y.isRef = true) (hc : XT.acmp cd x y = false) (K : Wx l Z EL M R h W k n (pc + 3) Ls rest Q) : Wx l Z EL M R h W k n pc Ls st Q := by
  subst hst
  exact Wp.pure (fun hA hx hb hr => XT.acmpNo hA hx rfl (by rw [hb]; exact fnd_ok ok hf) rfl h1 h2 hc hr) K
theorem Wp.idiv (ok : TabOk M.2.1 tb) {x y : Int32} {rest : List Value} (hf : fnd tb pc = some (.idiv, 1)) (hst : st = .int y :: .int x :: rest) (hy : y ≠ 0) (K : Wx l Z EL M R h W k n (pc + 1) Ls (.int (x / y) :: rest) Q) : Wx l Z EL M R h W k n pc Ls st Q := by
  subst hst
  exact Wp.pure (fun hA hx hb hr => XS.idiv hA hx rfl (by rw [hb]; exact fnd_ok ok hf) rfl hy hr) K
theorem Wp.irem (ok : TabOk M.2.1 tb) {x y : Int32} {rest : List Value} (hf : fnd tb pc = some (.irem, 1)) (hst : st = .int y :: .int x :: rest) (hy : y ≠ 0) (K : Wx l Z EL M R h W k n (pc + 1) Ls (.int (x % y) :: rest) Q) : Wx l Z EL M R h W k n pc Ls st Q := by
  subst hst
  refine Wp.pure (fun hA hx hb hr => XS.irem hA hx rfl (by rw [hb]; exact fnd_ok ok hf) rfl hy ?_) K
  have q : x - x / y * y = x % y := irem_eq_mod x y
  rw [q]; exact hr
theorem Wp.ldiv (ok : TabOk M.2.1 tb) {x y : Int64} {rest : List Value} (hf : fnd tb pc = some (.ldiv, 1)) (hst : st = .long y :: .long x :: rest) (hy : y ≠ 0) (K : Wx l Z EL M R h W k n (pc + 1) Ls (.long (x / y) :: rest) Q) : Wx l Z EL M R h W k n pc Ls st Q := by
  subst hst
  exact Wp.pure (fun hA hx hb hr => XT.ldiv hA hx rfl (by rw [hb]; exact fnd_ok ok hf) rfl hy hr) K
theorem Wp.lrem (ok : TabOk M.2.1 tb) {x y : Int64} {rest : List Value} (hf : fnd tb pc = some (.lrem, 1)) (hst : st = .long y :: .long x :: rest) (hy : y ≠ 0) (K : Wx l Z EL M R h W k n (pc + 1) Ls (.long (x % y) :: rest) Q) : Wx l Z EL M R h W k n pc Ls st Q := by
  subst hst
  refine Wp.pure (fun hA hx hb hr => XT.lrem hA hx rfl (by rw [hb]; exact fnd_ok ok hf) rfl hy ?_) K
  rw [lrem_mod]; exact hr
/-! ### the three kinds of step over the heap -/
theorem Wp.stay {pc' : Nat} {Ls' : Array Slot} {st' : List Value} (hs : ∀ {p : Program} {e : Env} {s : State} {m : MethodId} {args : Array Value} {below : List Frame} {meth : Method} {c : Code} {T : State} {locs : List Loc}, Cx M p meth c → Stand p l e R s m args below meth c T locs k n → T.heap = h → Z.Warmed39 s.vm → s.vm.findClass M.1.cls = some m.cls →
      ∃ T', Stand p l e R s m args below meth c T' locs k n ∧ T'.heap = h ∧ ∀ target, Steps p.tables e below (T'.setTop (mkF m pc' Ls' st')) target → Steps p.tables e below (T.setTop (mkF m pc Ls st)) target)
    (K : Wx l Z EL M R h W k n pc' Ls' st' Q) : Wx l Z EL M R h W k n pc Ls st Q := by
  intro p e s m args below meth c hc T vm0 H
  obtain ⟨locs, k0, X, eT, hS, hk, hZ, hown, r⟩ := H
  obtain ⟨T', X', eT', stp⟩ := hs hc X eT hZ hown
  exact (K p e s m args below meth c hc T' vm0 ⟨locs, k0, X', eT', hS, hk, hZ, hown, r⟩).pre stp
theorem Wp.grow {pc' k' n' : Nat} {Ls' : Array Slot} {st' : List Value} {P : Heap → Prop} (hk' : k' ≤ R.cells) (hn' : n' ≤ R.slots) (hP : ∀ h', P h' → h.size < h'.size)
    (hs : ∀ {p : Program} {e : Env} {s : State} {m : MethodId} {args : Array Value} {below : List Frame} {meth : Method} {c : Code} {T : State} {locs : List Loc}, Cx M p meth c → Stand p l e R s m args below meth c T locs k n → T.heap = h → Z.Warmed39 s.vm → s.vm.findClass M.1.cls = some m.cls →
      ∃ T' h', Stand p l e R s m args below meth c T' locs k' n' ∧ T'.heap = h' ∧ Ext h h' ∧ P h' ∧ ∀ target, Steps p.tables e below (T'.setTop (mkF m pc' Ls' st')) target → Steps p.tables e below (T.setTop (mkF m pc Ls st)) target)
    (K : ∀ h', Ext h h' → P h' → Wx l Z EL M R h' (h.size :: W) k' n' pc' Ls' st' Q) : Wx l Z EL M R h W k n pc Ls st Q := by
  intro p e s m args below meth c hc T vm0 H
  obtain ⟨locs, k0, X, eT, hS, hk, hZ, hown, hC, hN, hO, -, -, hX, hWH, hEL⟩ := H
  obtain ⟨T', h', X', eT', E, hPh, stp⟩ := hs hc X eT hZ hown
  have C2 := CHr.ext E hC.1
  refine (K h' E hPh p e s m args below meth c hc T' vm0 ⟨locs, k0, X', eT', hS, Nat.le_trans hk E.1, hZ, hown, hC.trans C2, hN, ?_, hk', hn', ext_trans hX E, hWH, hEL⟩).pre stp
  intro a ha
  rcases List.mem_cons.mp ha with rfl | ha
  · exact ⟨hX.1, hP _ hPh, (Safe.new (Nat.le_refl _)).ext E hC.1⟩
  · exact Own.later C2 hO a ha
theorem Wp.wr {pc' : Nat} {Ls' : Array Slot} {st' : List Value} {a : Addr} {sl : Nat} {v : Value} (ha : a ∈ W)
    (hs : ∀ {p : Program} {e : Env} {s : State} {m : MethodId} {args : Array Value} {below : List Frame} {meth : Method} {c : Code} {T : State} {locs : List Loc}, Cx M p meth c → Stand p l e R s m args below meth c T locs k n → T.heap = h → Z.Warmed39 s.vm → s.vm.findClass M.1.cls = some m.cls →
      ∃ T' h', Stand p l e R s m args below meth c T' (locs ++ [⟨a, sl⟩]) k n ∧ T'.heap = h' ∧ Wr h h' a sl v ∧ ∀ target, Steps p.tables e below (T'.setTop (mkF m pc' Ls' st')) target → Steps p.tables e below (T.setTop (mkF m pc Ls st)) target)
    (K : ∀ h', Wr h h' a sl v → Wx l Z EL M R h' W k n pc' Ls' st' Q) : Wx l Z EL M R h W k n pc Ls st Q := by
  intro p e s m args below meth c hc T vm0 H
  obtain ⟨locs, k0, X, eT, hS, hk, hZ, hown, hC, hN, hO, q1, q2, hX, hWH, hEL⟩ := H
  obtain ⟨T', h', X', eT', Wr', stp⟩ := hs hc X eT hZ hown
  have C2 := CHr.wr Wr' (hO a ha).2.2 hC.1
  exact (K h' Wr' p e s m args below meth c hc T' vm0 ⟨_, k0, X', eT', hS, by rw [Wr'.size]; exact hk, hZ, hown, hC.trans C2, Fr.snoc X' hN (hO a ha).1, Own.later C2 hO, q1, q2, ext_wr hX Wr' (hO a ha).1, hWH, hEL⟩).pre stp
/-! ### calls -/
theorem backC {M' : Mth} {rm : Room} {as : Array Value} {W' : List Addr} {Q' : Option Value → Heap → List Addr → Prop} {p : Program} {e : Env} {below : List Frame} {s : State} {args : Array Value} {vm0 : Vm} {len Wd : Nat} (C : Ct3 l Z EL M' rm as h W' Q') (hZ : Z.Warmed39 vm0) (wc : (Jvm.Cond.code M'.1 M'.2.1 M'.2.2.1 M'.2.2.2).before a0 Z = true) (wz : (Jvm.Cond.initialized M'.1.cls).before a0 Z = true)
    (hf : rm.frames + 1 ≤ R.frames) (hl : Wd + (M'.2.2.1 + 11) + rm.locals ≤ R.locals) (hEL : EW Z a0 EL) (H : CHv Z EL vm0 h) (hO : Own Z EL vm0 h W') (hX : Ext Z.heap h) :
    BackS l R p e below (s.setVm vm0) args M'.1 len Wd (fun A a => a = as ∧ A.U.heap = h ∧ A.cells + rm.cells ≤ R.cells ∧ A.slots + rm.slots ≤ R.slots)
      (fun A _ v B => ∃ L Wo, Q' v B.U.heap Wo ∧ Own Z EL B.U.vm B.U.heap Wo ∧ Fr Z.heap.size L ∧ B.locs = A.locs ++ L ∧ B.cells = A.cells + rm.cells ∧ B.slots = A.slots + rm.slots ∧ CHr Z EL vm0 h B.U.vm B.U.heap ∧ Ext Z.heap B.U.heap ∧ (EL = [] → (s.setVm vm0).WarmedH B.U.vm)) :=
  BackS.of_freeW (bytes := M'.2.1) (maxL := M'.2.2.1) (ret := M'.2.2.2) (E := fun _ first o t L k n => k = rm.cells ∧ n = rm.slots ∧ (∃ v Wo, o = .returned v ∧ Q' v t.heap Wo ∧ Own Z EL t.vm t.heap Wo) ∧ Fr Z.heap.size L ∧ CHr Z EL first.vm first.heap t.vm t.heap ∧ Ext Z.heap t.heap ∧ (EL = [] → first.WarmedH t.vm)) C hf hl
    (fun m meth c A a Y hp => have hU : Z.Warmed39 A.U.vm := wtrans (s := s.setVm vm0) hZ Y.warmed
      ⟨by show (Jvm.Cond.and _ .tt).before a A.U = true; rw [Cond.before_and, mv hU wc]; rfl, mv hU wc, mv hU wz, hp.2.2.1, hp.2.2.2⟩)
    (fun m meth c A a g mk Y hp => ⟨hp.1, wtrans (s := s.setVm vm0) hZ Y.warmed, hp.2.1, (show CHv Z EL A.U.vm h from (CHv.at Y hZ hEL H).1), (show Own Z EL A.U.vm h W' from Own.later (CHv.at Y hZ hEL H) hO), hX⟩) (fun _ _ _ _ _ _ _ _ _ => trivial)
    (fun _ _ _ _ ⟨v, L, Wo, h1, h2, h8, h3, h4, h6, h7, h5⟩ => ⟨L, _, _, h5, rfl, rfl, ⟨v, Wo, h1, h2, h8⟩, h3, h4, h6, h7⟩)
    (fun m meth c A a g mk v t L k n Y hp _ _ ⟨e1, e2, ⟨v', Wo, e3, e4, e9⟩, e6, e5, e7, e8⟩ => by
      cases e3; subst e1 e2
      refine ⟨L, Wo, e4, e9, e6, rfl, rfl, rfl, (CHv.at Y hZ hEL H).trans ?_, e7, fun q => State.WarmedH.trans Y.warmed (e8 q)⟩
      rw [← hp.2.1]; exact e5)
abbrev noH (y : MethodName) : Prop := y.cls ≠ "java/lang/invoke/MethodHandle" ∧ y.cls ≠ "java/lang/invoke/VarHandle"
/-- the general call: what each of the four kinds of invoke gives -/
theorem Wp.call3 {M' : Mth} {rm : Room} {as : Array Value} {W' : List Addr} {Q' : Option Value → Heap → List Addr → Prop} {rest : List Value} {Wd len : Nat} (C : Ct3 l Z EL M' rm as h W' Q') (hEL : EW Z a0 EL) (wc : (Jvm.Cond.code M'.1 M'.2.1 M'.2.2.1 M'.2.2.2).before a0 Z = true) (wz : (Jvm.Cond.initialized M'.1.cls).before a0 Z = true)
    (hf : rm.frames + 1 ≤ R.frames) (hl : Wd + (M'.2.2.1 + 11) + rm.locals ≤ R.locals) (hce : k + rm.cells ≤ R.cells) (hsl : n + rm.slots ≤ R.slots) (hW : ∀ a ∈ W', a ∈ W)
    (hs : ∀ {p : Program} {e : Env} {s : State} {vm0 : Vm} {m : MethodId} {args : Array Value} {below : List Frame} {meth : Method} {c : Code} {T : State} {locs : List Loc} {Pre : Pt → Array Value → Prop} {Post : Pt → Array Value → Option Value → Pt → Prop}, Cx M p meth c → Stand p l e R (s.setVm vm0) m args below meth c T locs k n → T.heap = h → Z.Warmed39 vm0 → vm0.findClass M.1.cls = some m.cls →
      BackS l R p e below (s.setVm vm0) args M'.1 len Wd Pre Post → (∀ vm₁, (s.setVm vm0).WarmedH vm₁ → Pre ⟨T.setVm vm₁, locs, k, n⟩ as) →
      ∃ (v : Option Value) (vm₁ : Vm) (B : Pt), (s.setVm vm0).WarmedH vm₁ ∧ Stand p l e R ((s.setVm vm0).setVm B.U.vm) m args below meth c B.U B.locs B.cells B.slots ∧ (s.setVm vm0).Since B.U.vm B.U.heap.size ∧ T.heap.size ≤ B.U.heap.size ∧ Post ⟨T.setVm vm₁, locs, k, n⟩ as v B ∧
        Steps p.tables e below (T.setTop (mkF m pc Ls st)) (B.U.setTop (mkF m (pc + len) Ls (v.toList ++ rest))))
    (K : ∀ v h' Wo, Q' v h' Wo → h.size ≤ h'.size → Wx l Z EL M R h' (Wo ++ W) (k + rm.cells) (n + rm.slots) (pc + len) Ls (v.toList ++ rest) Q) : Wx l Z EL M R h W k n pc Ls st Q := by
  intro p e s m args below meth c hc T vm0 H
  obtain ⟨locs, k0, X, eT, hS, hk, hZ, hown, hC, hN, hO, q1, q2, hX, hWH, hEL2⟩ := H
  obtain ⟨v, vm₁, B, hw1, XB, hS2, hgr, ⟨L, Wo, hQ, hOo, hL, b1, b2, b3, hC2, hX2, hWH2⟩, stp⟩ := hs hc X eT hZ hown (backC C hZ wc wz hf hl hEL hC.1 (fun a ha => hO a (hW a ha)) hX) fun vm₁ _ => ⟨rfl, eT, hce, hsl⟩
  obtain ⟨X', hS', hZ', hown'⟩ := rebS hS (Nat.le_trans hk (Nat.le_of_eq (congrArg _ eT).symm)) XB hS2 hgr hZ hown
  have b1 : B.locs = locs ++ L := b1
  have b2 : B.cells = k + rm.cells := b2
  have b3 : B.slots = n + rm.slots := b3
  rw [b1, b2, b3] at X'
  exact (K v B.U.heap Wo hQ hC2.2.1 p e s m args below meth c hc B.U B.U.vm ⟨_, _, X', rfl, hS', Nat.le_refl _, hZ', hown', hC.trans hC2, Fr.app hN hL, Own.app hOo (Own.later hC2 hO), hce, hsl, hX2, fun q => State.WarmedH.trans (hWH q) (hWH2 q), hEL2⟩).pre fun t q => stp.trans q
theorem Wp.call {M' : Mth} {rm : Room} {as : Array Value} {W' : List Addr} {Q' : Option Value → Heap → Prop} {rest : List Value} {Wd len : Nat} (C : Ct l Z EL M' rm as h W' Q') (hEL : EW Z a0 EL) (wc : (Jvm.Cond.code M'.1 M'.2.1 M'.2.2.1 M'.2.2.2).before a0 Z = true) (wz : (Jvm.Cond.initialized M'.1.cls).before a0 Z = true)
    (hf : rm.frames + 1 ≤ R.frames) (hl : Wd + (M'.2.2.1 + 11) + rm.locals ≤ R.locals) (hce : k + rm.cells ≤ R.cells) (hsl : n + rm.slots ≤ R.slots) (hW : ∀ a ∈ W', a ∈ W)
    (hs : ∀ {p : Program} {e : Env} {s : State} {vm0 : Vm} {m : MethodId} {args : Array Value} {below : List Frame} {meth : Method} {c : Code} {T : State} {locs : List Loc} {Pre : Pt → Array Value → Prop} {Post : Pt → Array Value → Option Value → Pt → Prop}, Cx M p meth c → Stand p l e R (s.setVm vm0) m args below meth c T locs k n → T.heap = h → Z.Warmed39 vm0 → vm0.findClass M.1.cls = some m.cls →
      BackS l R p e below (s.setVm vm0) args M'.1 len Wd Pre Post → (∀ vm₁, (s.setVm vm0).WarmedH vm₁ → Pre ⟨T.setVm vm₁, locs, k, n⟩ as) →
      ∃ (v : Option Value) (vm₁ : Vm) (B : Pt), (s.setVm vm0).WarmedH vm₁ ∧ Stand p l e R ((s.setVm vm0).setVm B.U.vm) m args below meth c B.U B.locs B.cells B.slots ∧ (s.setVm vm0).Since B.U.vm B.U.heap.size ∧ T.heap.size ≤ B.U.heap.size ∧ Post ⟨T.setVm vm₁, locs, k, n⟩ as v B ∧
        Steps p.tables e below (T.setTop (mkF m pc Ls st)) (B.U.setTop (mkF m (pc + len) Ls (v.toList ++ rest))))
    (K : ∀ v h', Q' v h' → h.size ≤ h'.size → Wx l Z EL M R h' W (k + rm.cells) (n + rm.slots) (pc + len) Ls (v.toList ++ rest) Q) : Wx l Z EL M R h W k n pc Ls st Q :=
  Wp.call3 (Q' := fun v h' _ => Q' v h') C hEL wc wz hf hl hce hsl hW hs (fun v h' Wo q hh => Wp.up (Nat.le_refl _) (Nat.le_refl _) hce hsl (fun a ha => List.mem_append_right _ ha) (K v h' q hh))
theorem Wp.callS (ok : TabOk M.2.1 tb) {M' : Mth} {rm : Room} {index : Nat} {W' : List Addr} {Q' : Option Value → Heap → Prop} {argsL rest : List Value} {ps : List FieldType} {rt : Option FieldType} (C : Ct l Z EL M' rm argsL.toArray h W' Q') (hEL : EW Z a0 EL) (w1 : (Jvm.Cond.methodLink M.1.cls index M'.1).before a0 Z = true) (w2 : (Jvm.Cond.static M'.1).before a0 Z = true) (wz : (Jvm.Cond.initialized M'.1.cls).before a0 Z = true) (wc : (Jvm.Cond.code M'.1 M'.2.1 M'.2.2.1 M'.2.2.2).before a0 Z = true)
    (hf : fnd tb pc = some (.invokestatic index, 3)) (hst : st = argsL.reverse ++ rest) (hy : noH M'.1) (hd : parseMethodDescriptor M'.1.desc = some ⟨ps, rt⟩) (hlen : argsL.length = ps.length) (hsz : Ls.size = M.2.2.1) (hfr : rm.frames + 1 ≤ R.frames) (hl : (rest.map fun v => v.category).sum + (M'.2.2.1 + 11) + rm.locals ≤ R.locals) (hce : k + rm.cells ≤ R.cells) (hsl : n + rm.slots ≤ R.slots) (hW : ∀ a ∈ W', a ∈ W)
    (K : ∀ v h', Q' v h' → h.size ≤ h'.size → Wx l Z EL M R h' W (k + rm.cells) (n + rm.slots) (pc + 3) Ls (v.toList ++ rest) Q) : Wx l Z EL M R h W k n pc Ls st Q := by
  subst hst
  refine Wp.call C hEL wc wz hfr hl hce hsl hW (fun {p e s vm0 m args below meth c T locs Pre Post} hc X eT hZ hown hB hpre => ?_) K
  exact callSS X hc.1 (y := M'.1) (bytes := M'.2.1) (maxL := M'.2.2.1) (ret := M'.2.2.2) hown (mvT (s := s.setVm vm0) hZ w1) (mvT (s := s.setVm vm0) hZ w2) (mvT (s := s.setVm vm0) hZ wz) (mvT (s := s.setVm vm0) hZ wc) hy hB (g := mkF m pc Ls (argsL.reverse ++ rest)) rfl (by rw [hc.2.2.1]; exact hsz) (argsL := argsL) (rest := rest) (lenOf hd hlen) rfl (by show 2 * 0 + _ ≤ _; simp) (by rw [hc.2.1]; exact fnd_ok ok hf) hpre
theorem Wp.callI (ok : TabOk M.2.1 tb) {M' : Mth} {rm : Room} {index : Nat} {W' : List Addr} {Q' : Option Value → Heap → Prop} {a : Addr} {argsL rest : List Value} {ps : List FieldType} {rt : Option FieldType} (C : Ct l Z EL M' rm (.ref a :: argsL).toArray h W' Q') (hEL : EW Z a0 EL) (w1 : (Jvm.Cond.methodLink M.1.cls index M'.1).before a0 Z = true) (w2 : (Jvm.Cond.instanceMethod M'.1).before a0 Z = true) (wz : (Jvm.Cond.initialized M'.1.cls).before a0 Z = true) (wc : (Jvm.Cond.code M'.1 M'.2.1 M'.2.2.1 M'.2.2.2).before a0 Z = true)
    (hf : fnd tb pc = some (.invokespecial index, 3)) (hst : st = argsL.reverse ++ .ref a :: rest) (hi : M'.1.name = "<init>") (hret : M'.2.2.2 = none) (hy : noH M'.1) (hd : parseMethodDescriptor M'.1.desc = some ⟨ps, rt⟩) (hlen : argsL.length = ps.length) (hsz : Ls.size = M.2.2.1) (hfr : rm.frames + 1 ≤ R.frames) (hl : (rest.map fun v => v.category).sum + (M'.2.2.1 + 11) + rm.locals ≤ R.locals) (hce : k + rm.cells ≤ R.cells) (hsl : n + rm.slots ≤ R.slots) (hW : ∀ a ∈ W', a ∈ W)
    (K : ∀ v h', Q' v h' → h.size ≤ h'.size → Wx l Z EL M R h' W (k + rm.cells) (n + rm.slots) (pc + 3) Ls (v.toList ++ rest) Q) : Wx l Z EL M R h W k n pc Ls st Q := by
  subst hst
  refine Wp.call C hEL wc wz hfr hl hce hsl hW (fun {p e s vm0 m args below meth c T locs Pre Post} hc X eT hZ hown hB hpre => ?_) K
  have wc' := wc
  rw [hret] at wc'
  exact X.specialBackS hc.1 (y := M'.1) hi hown (mvT (s := s.setVm vm0) hZ w1) (mvT (s := s.setVm vm0) hZ w2) (bytes := M'.2.1) (maxL := M'.2.2.1) (mvT (s := s.setVm vm0) hZ wc') hy hB (g := mkF m pc Ls (argsL.reverse ++ .ref a :: rest)) rfl (by rw [hc.2.2.1]; exact hsz) (Steps.refl _) (a := a) (argsL := argsL) (rest := rest) (lenOf hd hlen) rfl (by show 2 * 0 + _ ≤ _; simp) (by rw [hc.2.1]; exact fnd_ok ok hf) hpre
theorem Wp.callI3 (ok : TabOk M.2.1 tb) {M' : Mth} {rm : Room} {index : Nat} {W' : List Addr} {Q' : Option Value → Heap → List Addr → Prop} {a : Addr} {argsL rest : List Value} {ps : List FieldType} {rt : Option FieldType} (C : Ct3 l Z EL M' rm (.ref a :: argsL).toArray h W' Q') (hEL : EW Z a0 EL) (w1 : (Jvm.Cond.methodLink M.1.cls index M'.1).before a0 Z = true) (w2 : (Jvm.Cond.instanceMethod M'.1).before a0 Z = true) (wz : (Jvm.Cond.initialized M'.1.cls).before a0 Z = true) (wc : (Jvm.Cond.code M'.1 M'.2.1 M'.2.2.1 M'.2.2.2).before a0 Z = true)
    (hf : fnd tb pc = some (.invokespecial index, 3)) (hst : st = argsL.reverse ++ .ref a :: rest) (hi : M'.1.name = "<init>") (hret : M'.2.2.2 = none) (hy : noH M'.1) (hd : parseMethodDescriptor M'.1.desc = some ⟨ps, rt⟩) (hlen : argsL.length = ps.length) (hsz : Ls.size = M.2.2.1) (hfr : rm.frames + 1 ≤ R.frames) (hl : (rest.map fun v => v.category).sum + (M'.2.2.1 + 11) + rm.locals ≤ R.locals) (hce : k + rm.cells ≤ R.cells) (hsl : n + rm.slots ≤ R.slots) (hW : ∀ a ∈ W', a ∈ W)
    (K : ∀ v h' Wo, Q' v h' Wo → h.size ≤ h'.size → Wx l Z EL M R h' (Wo ++ W) (k + rm.cells) (n + rm.slots) (pc + 3) Ls (v.toList ++ rest) Q) : Wx l Z EL M R h W k n pc Ls st Q := by
  subst hst
  refine Wp.call3 C hEL wc wz hfr hl hce hsl hW (fun {p e s vm0 m args below meth c T locs Pre Post} hc X eT hZ hown hB hpre => ?_) K
  have wc' := wc
  rw [hret] at wc'
  exact X.specialBackS hc.1 (y := M'.1) hi hown (mvT (s := s.setVm vm0) hZ w1) (mvT (s := s.setVm vm0) hZ w2) (bytes := M'.2.1) (maxL := M'.2.2.1) (mvT (s := s.setVm vm0) hZ wc') hy hB (g := mkF m pc Ls (argsL.reverse ++ .ref a :: rest)) rfl (by rw [hc.2.2.1]; exact hsz) (Steps.refl _) (a := a) (argsL := argsL) (rest := rest) (lenOf hd hlen) rfl (by show 2 * 0 + _ ≤ _; simp) (by rw [hc.2.1]; exact fnd_ok ok hf) hpre
theorem Wp.callV (ok : TabOk M.2.1 tb) {M' : Mth} {rm : Room} {index : Nat} {W' : List Addr} {Q' : Option Value → Heap → Prop} {a : Addr} {argsL rest : List Value} {ps : List FieldType} {rt : Option FieldType} {cC : String} (C : Ct l Z EL M' rm (.ref a :: argsL).toArray h W' Q') (E : Exa Z h a cC) (hEL : EW Z a0 EL) (w1 : (Jvm.Cond.methodLink M.1.cls index M'.1).before a0 Z = true) (wd : (Jvm.Cond.declares M'.1).before a0 Z = true) (ws : (Jvm.Cond.selects cC M'.1 M'.1).before a0 Z = true) (w2 : (Jvm.Cond.instanceMethod M'.1).before a0 Z = true) (wz : (Jvm.Cond.initialized M'.1.cls).before a0 Z = true) (wc : (Jvm.Cond.code M'.1 M'.2.1 M'.2.2.1 M'.2.2.2).before a0 Z = true)
    (hf : fnd tb pc = some (.invokevirtual index, 3)) (hst : st = argsL.reverse ++ .ref a :: rest) (hy : noH M'.1) (hd : parseMethodDescriptor M'.1.desc = some ⟨ps, rt⟩) (hlen : argsL.length = ps.length) (hsz : Ls.size = M.2.2.1) (hfr : rm.frames + 1 ≤ R.frames) (hl : (rest.map fun v => v.category).sum + (M'.2.2.1 + 11) + rm.locals ≤ R.locals) (hce : k + rm.cells ≤ R.cells) (hsl : n + rm.slots ≤ R.slots) (hW : ∀ a ∈ W', a ∈ W)
    (K : ∀ v h', Q' v h' → h.size ≤ h'.size → Wx l Z EL M R h' W (k + rm.cells) (n + rm.slots) (pc + 3) Ls (v.toList ++ rest) Q) : Wx l Z EL M R h W k n pc Ls st Q := by
  subst hst
  refine Wp.call C hEL wc wz hfr hl hce hsl hW (fun {p e s vm0 m args below meth c T locs Pre Post} hc X eT hZ hown hB hpre => ?_) K
  obtain ⟨cq, kq, qa, qb, qc⟩ := isOf (s := s.setVm vm0) hZ eT E
  exact X.virtualBackS hc.1 (y := M'.1) (z := M'.1) hown (mvT (s := s.setVm vm0) hZ w1) (mvT (s := s.setVm vm0) hZ wd) (notFace_of_selects (args := #[]) (mvT (s := s.setVm vm0) hZ ws)) (mvT (s := s.setVm vm0) hZ ws) (mvT (s := s.setVm vm0) hZ w2) hy hB qa qc (g := mkF m pc Ls (argsL.reverse ++ .ref a :: rest)) rfl (by rw [hc.2.2.1]; exact hsz) (Steps.refl _) (argsL := argsL) (rest := rest) (lenOf hd hlen) rfl (by show 2 * 0 + _ ≤ _; simp) (by rw [hc.2.1]; exact fnd_ok ok hf) hpre
/-- a private instance method by invokevirtual or invokespecial's younger form -/
theorem Wp.callP (ok : TabOk M.2.1 tb) {M' : Mth} {rm : Room} {index : Nat} {W' : List Addr} {Q' : Option Value → Heap → Prop} {a : Addr} {argsL rest : List Value} {ps : List FieldType} {rt : Option FieldType} {cC : String} (C : Ct l Z EL M' rm (.ref a :: argsL).toArray h W' Q') (E : Exa Z h a cC) (hEL : EW Z a0 EL) (w1 : (Jvm.Cond.methodLink M.1.cls index M'.1).before a0 Z = true) (ws : (Jvm.Cond.selects M'.1.cls M'.1 M'.1).before a0 Z = true) (wp : (Jvm.Cond.privateMethod M'.1).before a0 Z = true) (w2 : (Jvm.Cond.instanceMethod M'.1).before a0 Z = true) (wz : (Jvm.Cond.initialized M'.1.cls).before a0 Z = true) (wc : (Jvm.Cond.code M'.1 M'.2.1 M'.2.2.1 M'.2.2.2).before a0 Z = true)
    (hf : fnd tb pc = some (.invokevirtual index, 3)) (hst : st = argsL.reverse ++ .ref a :: rest) (hy : noH M'.1) (hd : parseMethodDescriptor M'.1.desc = some ⟨ps, rt⟩) (hlen : argsL.length = ps.length) (hsz : Ls.size = M.2.2.1) (hfr : rm.frames + 1 ≤ R.frames) (hl : (rest.map fun v => v.category).sum + (M'.2.2.1 + 11) + rm.locals ≤ R.locals) (hce : k + rm.cells ≤ R.cells) (hsl : n + rm.slots ≤ R.slots) (hW : ∀ a ∈ W', a ∈ W)
    (K : ∀ v h', Q' v h' → h.size ≤ h'.size → Wx l Z EL M R h' W (k + rm.cells) (n + rm.slots) (pc + 3) Ls (v.toList ++ rest) Q) : Wx l Z EL M R h W k n pc Ls st Q := by
  subst hst
  refine Wp.call C hEL wc wz hfr hl hce hsl hW (fun {p e s vm0 m args below meth c T locs Pre Post} hc X eT hZ hown hB hpre => ?_) K
  obtain ⟨cell, hcell, hobj⟩ := E.cell
  exact X.privateBackS hc.1 (y := M'.1) (bytes := M'.2.1) (maxL := M'.2.2.1) (ret := M'.2.2.2) hown (mvT (s := s.setVm vm0) hZ w1) (mvT (s := s.setVm vm0) hZ w2) (mvT (s := s.setVm vm0) hZ ws) (Cond.privateMethod_at (mvP (s := s.setVm vm0) (args := args) hZ wp)) (mvT (s := s.setVm vm0) hZ wc) hy hB (g := mkF m pc Ls (argsL.reverse ++ .ref a :: rest)) rfl (by rw [hc.2.2.1]; exact hsz) (Steps.refl _) (a := a) (cell := cell) (by rw [eT]; exact hcell) hobj (argsL := argsL) (rest := rest) (lenOf hd hlen) rfl (by show 2 * 0 + _ ≤ _; simp) (by rw [hc.2.1]; exact fnd_ok ok hf) hpre
/-- Object.<init> -/
theorem Wp.initO (ok : TabOk M.2.1 tb) {index : Nat} {a : Addr} {rest : List Value} (w1 : (Jvm.Cond.methodLink M.1.cls index Lib.objectInit).before a0 Z = true) (w2 : (Jvm.Cond.instanceMethod Lib.objectInit).before a0 Z = true) (w3 : (Jvm.Cond.code Lib.objectInit ⟨#[0xb1]⟩ 1 none).before a0 Z = true) (hf : fnd tb pc = some (.invokespecial index, 3)) (hst : st = .ref a :: rest) (hsz : Ls.size = M.2.2.1) (hfr : 1 ≤ R.frames) (hl : (rest.map fun v => v.category).sum + 12 ≤ R.locals)
    (K : Wx l Z EL M R h W k n (pc + 3) Ls rest Q) : Wx l Z EL M R h W k n pc Ls st Q := by
  subst hst
  refine Wp.stay (fun {p e s m args below meth c T locs} hc X eT hZ hown => ?_) K
  exact RoadKit.initO X hc.1 hZ hown w1 w2 w3 eT (g := mkF m pc Ls (.ref a :: rest)) rfl (by rw [hc.2.2.1]; exact hsz) rfl (by rw [hc.2.1]; exact fnd_ok ok hf) hfr (W := (rest.map fun v => v.category).sum) (by show 2 * 0 + _ ≤ _; simp) hl
/-! ### the heap's single steps -/
theorem Wp.new (ok : TabOk M.2.1 tb) {index ni : Nat} {cC : String} (w : (Jvm.Cond.classLink M.1.cls index cC).before a0 Z = true) (wi : (Jvm.Cond.instantiable cC ni).before a0 Z = true) (wz : (Jvm.Cond.initialized cC).before a0 Z = true) (hf : fnd tb pc = some (.new index, 3)) (hc : k + 1 ≤ R.cells) (hl : n + ni ≤ R.slots)
    (K : ∀ h', Ext h h' → Exa Z h' h.size cC → (∀ {O nm d : String} {ty : FieldType}, Laid Z a0 cC O nm d → parseFieldDescriptor d = some ty → Fld Z h' h.size O nm d (defaultValue ty)) → Wx l Z EL M R h' (h.size :: W) (k + 1) (n + ni) (pc + 3) Ls (.ref h.size :: st) Q) : Wx l Z EL M R h W k n pc Ls st Q := by
  refine Wp.grow (P := fun h' => Exa Z h' h.size cC ∧ ∀ {O nm d : String} {ty : FieldType}, Laid Z a0 cC O nm d → parseFieldDescriptor d = some ty → Fld Z h' h.size O nm d (defaultValue ty)) hc hl (fun _ q => q.1.lt) (fun {p e s m args below meth c T locs} hx X eT hZ hown => ?_) (fun h' E q => K h' E q.1 q.2)
  obtain ⟨T2, h2, X2, e2, E2, A2, D2, -, st2⟩ := newO X hx.1 hZ hown w wi wz eT (g := mkF m pc Ls st) rfl (by rw [hx.2.1]; exact fnd_ok ok hf) hc hl
  exact ⟨T2, h2, X2, e2, E2, ⟨A2, D2⟩, st2⟩
theorem Wp.getF (ok : TabOk M.2.1 tb) {index : Nat} {R0 O nm d : String} {a : Addr} {v : Value} {rest : List Value} (F : Fld Z h a O nm d v) (w : (Jvm.Cond.fieldLink M.1.cls index R0 nm d).before a0 Z = true) (via : Via Z R0 O nm d) (hf : fnd tb pc = some (.getfield index, 3)) (hst : st = .ref a :: rest) (K : Wx l Z EL M R h W k n (pc + 3) Ls (v :: rest) Q) : Wx l Z EL M R h W k n pc Ls st Q := by
  subst hst
  refine Wp.stay (fun {p e s m args below meth c T locs} hc X eT hZ hown => ?_) K
  exact RoadKit.getF X hc.1 hZ hown (host := "") (Or.inl w) via eT F (g := mkF m pc Ls (.ref a :: rest)) rfl rfl (by rw [hc.2.1]; exact fnd_ok ok hf)
theorem Wp.getS (ok : TabOk M.2.1 tb) {index : Nat} {R0 O nm d : String} {v : Value} (F : Sta Z Z.heap O nm d v) (w : (Jvm.Cond.fieldLink M.1.cls index R0 nm d).before a0 Z = true) (via : Via Z R0 O nm d) (hf : fnd tb pc = some (.getstatic index, 3)) (K : Wx l Z EL M R h W k n (pc + 3) Ls (v :: st) Q) : Wx l Z EL M R h W k n pc Ls st Q := by
  refine Wp.old fun hX => Wp.stay (fun {p e s m args below meth c T locs} hc X eT hZ hown => ?_) K
  exact RoadKit.getS (host := "") X hc.1 hZ hown w via eT (F.ext hX) (g := mkF m pc Ls st) rfl (by rw [hc.2.1]; exact fnd_ok ok hf)
theorem Wp.putF (ok : TabOk M.2.1 tb) {index ni : Nat} {R0 O nm d cC : String} {ty : FieldType} {a : Addr} {v old : Value} {rest : List Value} (F : Fld Z h a O nm d old) (E : Exa Z h a cC) (ha : a ∈ W) (w : (Jvm.Cond.fieldLink M.1.cls index R0 nm d).before a0 Z = true) (via : Via Z R0 O nm d) (L : (Jvm.Cond.lays cC O nm d).before a0 Z = true ∨ ((Jvm.Cond.laysFinal cC O nm d).before a0 Z = true ∧ M.1.cls = O ∧ M.1.name = "<init>")) (wi : (Jvm.Cond.instantiable cC ni).before a0 Z = true) (hty : parseFieldDescriptor d = some ty) (hfit : fits ty v = true) (hf : fnd tb pc = some (.putfield index, 3)) (hst : st = v :: .ref a :: rest)
    (K : ∀ h', Wr h h' a (RoadKit.slotOf Z O nm d) v → Wx l Z EL M R h' W k n (pc + 3) Ls rest Q) : Wx l Z EL M R h W k n pc Ls st Q := by
  subst hst
  refine Wp.wr ha (fun {p e s m args below meth c T locs} hc X eT hZ hown => ?_) K
  exact RoadKit.putF X hc.1 hZ hown (host := "") (Or.inl w) via eT F E (L.imp id fun q => ⟨q.1, q.2.1, by rw [hc.2.2.2.2.2]; exact q.2.2⟩) wi hty (narrow_of_fits hfit) hfit (g := mkF m pc Ls (v :: .ref a :: rest)) rfl rfl (by rw [hc.2.1]; exact fnd_ok ok hf)
theorem Wp.cast (ok : TabOk M.2.1 tb) {index : Nat} {K0 : String} {a : Addr} {rest : List Value} (F : Ins Z h a K0 true) (w : (Jvm.Cond.classLink M.1.cls index K0).before a0 Z = true) (hf : fnd tb pc = some (.checkcast index, 3)) (hst : st = .ref a :: rest) (K : Wx l Z EL M R h W k n (pc + 3) Ls (.ref a :: rest) Q) : Wx l Z EL M R h W k n pc Ls st Q := by
  subst hst
  refine Wp.stay (fun {p e s m args below meth c T locs} hc X eT hZ hown => ?_) K
  exact castY X hc.1 hZ hown w eT F (g := mkF m pc Ls (.ref a :: rest)) rfl rfl (by rw [hc.2.1]; exact fnd_ok ok hf)
theorem Wp.inst (ok : TabOk M.2.1 tb) {index : Nat} {K0 : String} {a : Addr} {rest : List Value} (F : Ins Z h a K0 true) (w : (Jvm.Cond.classLink M.1.cls index K0).before a0 Z = true) (hf : fnd tb pc = some (.instanceof index, 3)) (hst : st = .ref a :: rest) (K : Wx l Z EL M R h W k n (pc + 3) Ls (.int 1 :: rest) Q) : Wx l Z EL M R h W k n pc Ls st Q := by
  subst hst
  refine Wp.stay (fun {p e s m args below meth c T locs} hc X eT hZ hown => ?_) K
  exact instY X hc.1 hZ hown w eT F (g := mkF m pc Ls (.ref a :: rest)) rfl rfl (by rw [hc.2.1]; exact fnd_ok ok hf)
theorem Wp.ldcI (ok : TabOk M.2.1 tb) {index : Nat} {v : Int32} (w : (Jvm.Cond.constant M.1.cls index v).before a0 Z = true) (hf : fnd tb pc = some (.ldc index, 2)) (K : Wx l Z EL M R h W k n (pc + 2) Ls (.int v :: st) Q) : Wx l Z EL M R h W k n pc Ls st Q := by
  refine Wp.stay (fun {p e s m args below meth c T locs} hc X eT hZ hown => ?_) K
  exact ⟨T, X, eT, X.ldcInt hc.1 hown (mv hZ w) (g := mkF m pc Ls st) rfl (by rw [hc.2.1]; exact fnd_ok ok hf)⟩
theorem Wp.ldcL (ok : TabOk M.2.1 tb) {index : Nat} {v : Int64} (w : (Jvm.Cond.constantLong M.1.cls index v).before a0 Z = true) (hf : fnd tb pc = some (.ldc2_w index, 3)) (K : Wx l Z EL M R h W k n (pc + 3) Ls (.long v :: st) Q) : Wx l Z EL M R h W k n pc Ls st Q := by
  refine Wp.stay (fun {p e s m args below meth c T locs} hc X eT hZ hown => ?_) K
  exact ⟨T, X, eT, X.ldc2Long hc.1 hown (mv hZ w) (g := mkF m pc Ls st) rfl (by rw [hc.2.1]; exact fnd_ok ok hf)⟩
/-! ### arrays: a list of values -/
def Ar (Z : State) (h : Heap) (a : Addr) (ty : FieldType) (vs : List Value) : Prop := ∃ c : Cell, Arr Z h a c ty ∧ c.slots = vs.toArray ∧ vs.length < 2 ^ 31 ∧ ∀ v ∈ vs, fits ty v = true
theorem Ar.lt {a : Addr} {ty : FieldType} {vs : List Value} (A : Ar Z h a ty vs) : a < h.size := by obtain ⟨c, B, -⟩ := A; exact B.lt
theorem Ar.len {a : Addr} {ty : FieldType} {vs : List Value} (A : Ar Z h a ty vs) : vs.length < 2 ^ 31 := by obtain ⟨c, B, -, q, -⟩ := A; exact q
theorem Ar.ext {a : Addr} {ty : FieldType} {vs : List Value} {h' : Heap} (A : Ar Z h a ty vs) (E : Ext h h') : Ar Z h' a ty vs := by obtain ⟨c, B, r⟩ := A; exact ⟨c, B.ext E, r⟩
theorem Ar.keep {a : Addr} {ty : FieldType} {vs : List Value} {h' : Heap} {ws : List Addr} (A : Ar Z h a ty vs) (K : Keep h h' ws) (q : a ∉ ws) : Ar Z h' a ty vs := by obtain ⟨c, B, r⟩ := A; exact ⟨c, ⟨K.2.1 a c B.1 q, B.2⟩, r⟩
theorem Ar.other {a b : Addr} {ty : FieldType} {vs : List Value} {h' : Heap} {sl : Nat} {v : Value} (A : Ar Z h a ty vs) (Wr' : Wr h h' b sl v) (q : a ≠ b) : Ar Z h' a ty vs := by obtain ⟨c, B, r⟩ := A; exact ⟨c, B.other Wr' q, r⟩
theorem Ar.set {a : Addr} {ty : FieldType} {vs : List Value} {h' : Heap} {sl : Nat} {v : Value} (A : Ar Z h a ty vs) (hv : fits ty v = true) (Wr' : Wr h h' a sl v) : Ar Z h' a ty (vs.set sl v) := by
  obtain ⟨c, B, r1, r2, r3⟩ := A
  refine ⟨c.setSlot sl v, B.same Wr', ?_, by rw [List.length_set]; exact r2, fun x hx => ?_⟩
  · show c.slots.setIfInBounds sl v = _
    rw [r1]; simp
  · rcases List.mem_or_eq_of_mem_set hx with q | q
    · exact r3 _ q
    · rw [q]; exact hv
theorem Ar.arv {a : Addr} {ty : FieldType} {vs : List Value} (A : Ar Z h a ty vs) (d : Value) : ∃ kc, Arv Z h a kc ty (Int32.ofNat vs.length) vs d := by
  obtain ⟨c, B, r1, r2, r3⟩ := A
  have e1 : c.slots.size = vs.length := by rw [r1]; simp
  refine ⟨c.cls, c, B, rfl, by rw [e1, XT.n32 r2], Int32.ofNat_not_neg r2, fun j hj => ?_, fun j hj => ?_⟩
  · rw [e1] at hj; rw [r1]; simp [hj]
  · rw [e1] at hj; refine r3 _ ?_; simp [hj]
theorem Ar.of_arv {a : Addr} {ty : FieldType} {vs : List Value} {kc : ClassId} {z : Int32} {d : Value} (A : Arv Z h a kc ty z vs d) (hz : z.toNatClampNeg = vs.length) : Ar Z h a ty vs := by
  obtain ⟨c, B, -, e1, hz0, H, G⟩ := A
  have e2 : c.slots.size = vs.length := e1.trans hz
  refine ⟨c, B, ?_, by rw [← hz]; exact (back32 hz0).2, fun v hv => ?_⟩
  · apply Array.ext
    · simpa using e2
    · intro j h1 h2
      have q := H j h1
      have h3 : j < vs.length := by rw [← e2]; exact h1
      rw [Array.getElem?_eq_getElem h1] at q
      simpa [h3] using q
  · obtain ⟨i, hi, rfl⟩ := List.getElem_of_mem hv
    have := G i (by rw [e2]; exact hi)
    simpa [hi] using this
theorem Ar.xt {a : Addr} {ty : FieldType} {vs : List Value} {p : Program} {e : Env} {s : State} {m : MethodId} {args : Array Value} {below : List Frame} {meth : Method} {c : Code} {T : State} {locs : List Loc} (X : Stand p l e R s m args below meth c T locs k n) (eT : T.heap = h) (hZ : Z.Warmed39 s.vm) (A : Ar Z h a ty vs) : ∃ cl, Jvm.Free.XT.Arr ty a cl T ∧ cl.slots = vs.toArray ∧ Arr Z h a cl ty := by
  obtain ⟨cl, B, r1, r2, r3⟩ := A
  have hU : Z.Warmed39 T.vm := wtrans hZ X.warmed
  exact ⟨cl, ⟨by rw [eT]; exact B.1, State.isArrayOf_alike hU.alike B.2.1, B.2.2, by rw [r1]; simpa using r2⟩, r1, B⟩
theorem Wp.alen (ok : TabOk M.2.1 tb) {a : Addr} {ty : FieldType} {vs : List Value} {rest : List Value} (A : Ar Z h a ty vs) (hf : fnd tb pc = some (.arraylength, 1)) (hst : st = .ref a :: rest) (K : Wx l Z EL M R h W k n (pc + 1) Ls (.int (Int32.ofNat vs.length) :: rest) Q) : Wx l Z EL M R h W k n pc Ls st Q := by
  subst hst
  refine Wp.stay (fun {p e s m args below meth c T locs} hc X eT hZ hown => ?_) K
  obtain ⟨cl, A1, e1, -⟩ := A.xt X eT hZ
  refine ⟨T, X, eT, fun target q => X.alen hc.1 A1 (g := mkF m pc Ls (.ref a :: rest)) rfl rfl (by rw [hc.2.1]; exact fnd_ok ok hf) ?_⟩
  rw [e1]; simpa using q
theorem Wp.aget (ok : TabOk M.2.1 tb) {a : Addr} {ty : FieldType} {vs : List Value} {j : Int32} {i : Nat} {v : Value} {rest : List Value} {ins : Instr} (A : Ar Z h a ty vs) (hj : j = Int32.ofNat i) (hv : vs[i]? = some v) (hf : fnd tb pc = some (ins, 1)) (hins : ins = XT.loadOf ty) (hst : st = .int j :: .ref a :: rest) (K : Wx l Z EL M R h W k n (pc + 1) Ls (v :: rest) Q) : Wx l Z EL M R h W k n pc Ls st Q := by
  subst hst hins
  refine Wp.stay (fun {p e s m args below meth c T locs} hc X eT hZ hown => ?_) K
  obtain ⟨cl, A1, e1, -⟩ := A.xt X eT hZ
  exact ⟨T, X, eT, fun target q => X.aget hc.1 A1 hj (by rw [e1]; simpa using hv) (g := mkF m pc Ls (.int j :: .ref a :: rest)) rfl rfl (by rw [hc.2.1]; exact fnd_ok ok hf) q⟩
theorem wr_of_put {a : Addr} {cl : Cell} {i : Nat} {v : Value} {T T' : State} {ty : FieldType} (A : Arr Z T.heap a cl ty) (hi : i < cl.slots.size) (P : Jvm.Free.XT.Put a (cl.setSlot i v) T T') : Wr T.heap T'.heap a i v := by
  refine ⟨cl, A.1, A.plain, hi, ?_⟩
  obtain ⟨p1, p2, p3⟩ := P
  apply Array.ext_getElem?
  intro y
  by_cases q : y = a
  · subst q; rw [p1]; simp [(Array.getElem?_eq_some_iff.mp A.1).1]
  · rw [p2 y q, Array.getElem?_setIfInBounds_ne (Ne.symm q)]
theorem Wp.aput (ok : TabOk M.2.1 tb) {a : Addr} {ty : FieldType} {vs : List Value} {j : Int32} {i : Nat} {v : Value} {rest : List Value} {ins : Instr} (A : Ar Z h a ty vs) (ha : a ∈ W) (hj : j = Int32.ofNat i) (hi : i < vs.length) (hp : ty.isReference = false) (hfit : fits ty v = true) (hf : fnd tb pc = some (ins, 1)) (hins : ins = XT.storeOf ty) (hst : st = v :: .int j :: .ref a :: rest)
    (K : ∀ h', Wr h h' a i v → Ar Z h' a ty (vs.set i v) → Wx l Z EL M R h' W k n (pc + 1) Ls rest Q) : Wx l Z EL M R h W k n pc Ls st Q := by
  subst hst hins
  refine Wp.wr (sl := i) (v := v) ha (fun {p e s m args below meth c T locs} hc X eT hZ hown => ?_) (fun h' w => K h' w (A.set hfit w))
  obtain ⟨cl, A1, e1, A2⟩ := A.xt X eT hZ
  have hi' : i < cl.slots.size := by rw [e1]; simpa using hi
  obtain ⟨T', X', P, stp⟩ := X.aput hc.1 A1 hj hi' hp hfit (g := mkF m pc Ls (v :: .int j :: .ref a :: rest)) rfl rfl (by rw [hc.2.1]; exact fnd_ok ok hf)
  exact ⟨T', _, X', rfl, by rw [← eT]; rw [← eT] at A2; exact wr_of_put A2 hi' P, stp⟩
theorem Wp.newP (ok : TabOk M.2.1 tb) {aty : ArrayType} {z : Int32} {len cap : Nat} {rest : List Value} (w : (Jvm.Cond.arrayClass (newarray.typeOf aty)).before a0 Z = true) (hf : fnd tb pc = some (.newarray aty, 2)) (hst : st = .int z :: rest) (hz : z = Int32.ofNat len) (hcap : len ≤ cap) (hb : cap * 8 ≤ 536870912) (hc : k + 1 ≤ R.cells) (hl : n + cap ≤ R.slots)
    (K : ∀ h', Ext h h' → Ar Z h' h.size (newarray.typeOf aty) (List.replicate len (defaultValue (newarray.typeOf aty))) → Wx l Z EL M R h' (h.size :: W) (k + 1) (n + cap) (pc + 2) Ls (.ref h.size :: rest) Q) : Wx l Z EL M R h W k n pc Ls st Q := by
  subst hst hz
  have h31 : len < 2 ^ 31 := by omega
  have e1 : (Int32.ofNat len).toNatClampNeg = len := XT.n32 h31
  refine Wp.grow (P := fun h' => Ar Z h' h.size (newarray.typeOf aty) (List.replicate len (defaultValue (newarray.typeOf aty)))) hc hl (fun _ q => q.lt) (fun {p e s m args below meth c T locs} hx X eT hZ hown => ?_) K
  obtain ⟨T2, h2, cA, X2, e2, E2, A2, st2⟩ := RoadKit.newP X hx.1 hZ w eT (g := mkF m pc Ls (.int (Int32.ofNat len) :: rest)) rfl (by rw [hx.2.1]; exact fnd_ok ok hf) rfl (Int32.ofNat_not_neg h31) (by rw [e1]; exact hcap) hb hc hl
  refine ⟨T2, h2, X2, e2, E2, ⟨_, A2, ?_, by simpa using h31, fun v hv => ?_⟩, st2⟩
  · simp [newA, e1]
  · rw [(List.mem_replicate.mp hv).2]; cases aty <;> rfl
/-! ### leaving -/
theorem Wp.leave {v : Option Value} (hv : M.2.2.2 = none → v = none) (hs : ∀ {p : Program} {e : Env} {s : State} {m : MethodId} {args : Array Value} {below : List Frame} {meth : Method} {c : Code} {T : State} {locs : List Loc} {fs : List Frame}, Cx M p meth c → Stand p l e R s m args below meth c T locs k n → (∀ (f : JFrame) (acts : List Action), f.method = m → f.locked = none → f.entered = [] → (doReturn e (T.setTop f) acts v).1 = T.setFrames fs) → Steps p.tables e below (T.setTop (mkF m pc Ls st)) (T.setFrames fs))
    (K : Q v h W) : Wx l Z EL M R h W k n pc Ls st Q := by
  intro p e s m args below meth c hc T vm0 H
  obtain ⟨locs, k0, X, eT, hS, hk, hZ, hown, hC, hN, hO, q1, q2, hX, hWH, a1, hEL⟩ := H
  obtain ⟨fs, hr, hrun, hended, hW1, hW2, hW3, hW4⟩ := X.leaveW hS (by rw [eT]; exact hk) (v := v) (fun q => hv (hc.2.2.2.1 ▸ q)) hc.2.2.2.2.1
  have C2 : CHr Z EL s.vm s.heap (T.setFrames fs).vm (T.setFrames fs).heap := by
    have := hC.trans (CHv.at X hZ hEL hC.1)
    rw [← eT] at this; exact this
  have O2 : Own Z EL (T.setFrames fs).vm (T.setFrames fs).heap W := by
    have := Own.later (CHv.at X hZ hEL hC.1) hO
    rw [← eT] at this; exact this
  exact ⟨_, v, locs, W, hs hc X hr, hrun, hended, by rw [← eT] at K; exact K, O2, hN, C2, by rw [← eT] at hX; exact hX, fun q => State.WarmedH.trans (hWH q) X.warmed, hW1, hW2, hW3, hW4.mono q1 q2⟩
theorem Wp.ret0 (ok : TabOk M.2.1 tb) (hret : M.2.2.2 = none) (hf : fnd tb pc = some (.return_, 1)) (hst : st = []) (K : Q none h W) : Wx l Z EL M R h W k n pc Ls st Q := by
  subst hst
  exact Wp.leave (fun _ => rfl) (fun hc X hr => X.returnOut hc.1 (by rw [hc.2.2.2.1]; exact hret) (by rw [hc.2.1]; exact fnd_ok ok hf) hr) K
theorem Wp.retI (ok : TabOk M.2.1 tb) {t : FieldType} {z : Int32} {rest : List Value} (hret : M.2.2.2 = some t) (ht : t = .int ∨ t = .boolean ∨ t = .byte ∨ t = .char ∨ t = .short) (hf : fnd tb pc = some (.ireturn, 1)) (hst : st = .int z :: rest) (hfit : fits t (.int z) = true) (K : Q (some (.int z)) h W) : Wx l Z EL M R h W k n pc Ls st Q := by
  subst hst
  exact Wp.leave (fun q => by rw [hret] at q; cases q) (fun hc X hr => retOut X hc.1 (by rw [hc.2.2.2.1]; exact hret) (narrow_of_fits hfit) (Or.inl ⟨rfl, ht, z, rfl⟩) (by rw [hc.2.1]; exact fnd_ok ok hf) hr) K
theorem Wp.retL (ok : TabOk M.2.1 tb) {z : Int64} {rest : List Value} (hret : M.2.2.2 = some .long) (hf : fnd tb pc = some (.lreturn, 1)) (hst : st = .long z :: rest) (K : Q (some (.long z)) h W) : Wx l Z EL M R h W k n pc Ls st Q := by
  subst hst
  exact Wp.leave (fun q => by rw [hret] at q; cases q) (fun hc X hr => retOut X hc.1 (by rw [hc.2.2.2.1]; exact hret) (rfl : narrow .long (.long z) = .long z) (Or.inr (Or.inl ⟨rfl, rfl, z, rfl⟩)) (by rw [hc.2.1]; exact fnd_ok ok hf) hr) K
theorem Wp.retA (ok : TabOk M.2.1 tb) {t : FieldType} {w : Value} {rest : List Value} (hret : M.2.2.2 = some t) (ht : t.isReference = true) (hw : w.isRef = true) (hf : fnd tb pc = some (.areturn, 1)) (hst : st = w :: rest) (K : Q (some w) h W) : Wx l Z EL M R h W k n pc Ls st Q := by
  subst hst
  have hn : narrow t w = w := by cases w <;> cases t <;> first | rfl | simp_all [Value.isRef, FieldType.isReference]
  exact Wp.leave (fun q => by rw [hret] at q; cases q) (fun hc X hr => retOut X hc.1 (by rw [hc.2.2.2.1]; exact hret) hn (Or.inr (Or.inr (Or.inr (Or.inr ⟨rfl, ht, hw⟩)))) (by rw [hc.2.1]; exact fnd_ok ok hf) hr) K
end Rules
end Jvm.Pilot.@@N@@.Kw
namespace Jvm.Pilot.@@N@@.Kw
open Jvm Jvm.ClassFile Sem Op Lib Jvm.Free Jvm.Stand Jvm.LawKit Jvm.RoadKit Bundle
/-! ## numbers -/
theorem n_lt {i j : Nat} (hi : i < 2 ^ 31) (hj : j < 2 ^ 31) : (Int32.ofNat i < Int32.ofNat j) ↔ i < j := by
  rw [Int32.lt_iff_toInt_lt, Int32.toInt_ofNat_small hi, Int32.toInt_ofNat_small hj]; omega
theorem n_le {i j : Nat} (hi : i < 2 ^ 31) (hj : j < 2 ^ 31) : (Int32.ofNat i ≤ Int32.ofNat j) ↔ i ≤ j := by
  rw [Int32.le_iff_toInt_le, Int32.toInt_ofNat_small hi, Int32.toInt_ofNat_small hj]; omega
theorem n_eq {i j : Nat} (hi : i < 2 ^ 31) (hj : j < 2 ^ 31) : (Int32.ofNat i = Int32.ofNat j) ↔ i = j := by
  rw [← Int32.toInt_inj, Int32.toInt_ofNat_small hi, Int32.toInt_ofNat_small hj]; omega
theorem n_add (i j : Nat) : Int32.ofNat i + Int32.ofNat j = Int32.ofNat (i + j) := (Int32.ofNat_add i j).symm
theorem n_succ (i : Nat) : Int32.ofNat i + 1 = Int32.ofNat (i + 1) := n_add i 1
theorem n_sub {i j : Nat} (q : j ≤ i) : Int32.ofNat i - Int32.ofNat j = Int32.ofNat (i - j) := by
  obtain ⟨d, rfl⟩ := Nat.exists_eq_add_of_le q
  rw [← n_add, Nat.add_sub_cancel_left, Int32.add_comm, Int32.add_sub_cancel]
theorem n_int {i : Nat} (hi : i < 2 ^ 31) : (Int32.ofNat i).toInt = i := Int32.toInt_ofNat_small hi
theorem n_of {x : Int32} (q : 0 ≤ x.toInt) : x = Int32.ofNat x.toInt.toNat ∧ x.toInt.toNat < 2 ^ 31 := by
  have h2 := x.toInt_lt
  have hb : x.toInt.toNat < 2 ^ 31 := by omega
  refine ⟨Int32.toInt_inj.mp ?_, hb⟩
  rw [n_int hb]; omega
theorem mod_n (x : Int32) {d : Nat} (hd : 0 < d) (hd2 : d < 2 ^ 31) : ∃ m, m < d ∧ (x &&& 2147483647) % Int32.ofNat d = Int32.ofNat m := by
  have h0 : 0 ≤ (x &&& 2147483647).toInt := by rw [Int32.and_comm]; exact (c_and' 2147483647 x (by decide)).1
  have e1 := (c_irem (x &&& 2147483647) (Int32.ofNat d) d (n_int hd2)).1 h0
  have h1 : 0 ≤ ((x &&& 2147483647) % Int32.ofNat d).toInt := by rw [e1]; exact Int.emod_nonneg _ (by omega)
  have h2 : ((x &&& 2147483647) % Int32.ofNat d).toInt < d := by rw [e1]; exact Int.emod_lt_of_pos _ (by omega)
  obtain ⟨e2, -⟩ := n_of h1
  exact ⟨_, by omega, e2⟩
theorem andmod_n (x a : Int32) (ha : 0 ≤ a.toInt) {d : Nat} (hd : 0 < d) (hd2 : d < 2 ^ 31) : ∃ m, m < d ∧ (x &&& a) % Int32.ofNat d = Int32.ofNat m := by
  have h0 : 0 ≤ (x &&& a).toInt := by rw [Int32.and_comm]; exact (c_and' a x ha).1
  have e1 := (c_irem (x &&& a) (Int32.ofNat d) d (n_int hd2)).1 h0
  have h1 : 0 ≤ ((x &&& a) % Int32.ofNat d).toInt := by rw [e1]; exact Int.emod_nonneg _ (by omega)
  have h2 : ((x &&& a) % Int32.ofNat d).toInt < d := by rw [e1]; exact Int.emod_lt_of_pos _ (by omega)
  obtain ⟨e2, -⟩ := n_of h1
  exact ⟨_, by omega, e2⟩
/-! ## bytes and chars -/
def Lat (cs : List Int32) : Prop := ∀ c ∈ cs, 0 ≤ c.toInt ∧ c.toInt ≤ 255
abbrev bt (c : Int32) : Value := .int (lo8 c)
abbrev byt (cs : List Int32) : List Value := cs.map bt
theorem fits_bt (c : Int32) : fits .byte (bt c) = true := fits_nar_byte c
theorem lo8_int (c : Int32) : (lo8 c).toInt = (c.toInt).bmod 256 := by
  simp [lo8, Int32.toInt_toInt8]
theorem lo8_and {c : Int32} (q : 0 ≤ c.toInt ∧ c.toInt ≤ 255) : lo8 c &&& 255 = c := by
  obtain ⟨e, hb⟩ := n_of q.1
  have hk : c.toInt.toNat < 256 := by omega
  rw [e]
  generalize c.toInt.toNat = k at hk
  revert k
  decide +kernel
theorem lo8_inj {c d : Int32} (q : 0 ≤ c.toInt ∧ c.toInt ≤ 255) (r : 0 ≤ d.toInt ∧ d.toInt ≤ 255) (e : lo8 c = lo8 d) : c = d := by
  rw [← lo8_and q, e, lo8_and r]
theorem byt_inj : ∀ {cs ds : List Int32}, Lat cs → Lat ds → byt cs = byt ds → cs = ds
  | [], [], _, _, _ => rfl
  | [], _ :: _, _, _, e => by simp at e
  | _ :: _, [], _, _, e => by simp at e
  | c :: cs, d :: ds, hc, hd, e => by
    simp only [byt, List.map_cons, List.cons.injEq, bt, Value.int.injEq] at e
    rw [lo8_inj (hc c (List.mem_cons_self ..)) (hd d (List.mem_cons_self ..)) e.1, byt_inj (fun x hx => hc x (List.mem_cons_of_mem _ hx)) (fun x hx => hd x (List.mem_cons_of_mem _ hx)) e.2]
theorem c16_lat {c : Int32} (q : 0 ≤ c.toInt ∧ c.toInt ≤ 255) : c16 c = c := by
  obtain ⟨e, hb⟩ := n_of q.1
  have hk : c.toInt.toNat < 256 := by omega
  rw [e]
  generalize c.toInt.toNat = k at hk
  revert k
  decide +kernel
theorem fitc {c : Int32} (q : 0 ≤ c.toInt ∧ c.toInt ≤ 255) : fits .char (.int c) = true := by
  simp only [fits, Bool.and_eq_true, decide_eq_true_eq, Int32.le_iff_toInt_le, show (0 : Int32).toInt = 0 from by decide, show (65535 : Int32).toInt = 65535 from by decide]; omega
theorem shr0 (x : Int32) : x >>> ((0 : Int32) &&& 31) = x := by
  show x >>> (0 : Int32) = x
  exact Int32.shiftRight_zero
theorem and255 (x : Int32) : 0 ≤ (x &&& 255).toInt ∧ (x &&& 255).toInt ≤ 255 := by
  have := c_and' 255 x (by decide); rw [Int32.and_comm]; exact ⟨this.1, this.2⟩
theorem latD {cs : List Int32} (q : (cs.all fun c => decide (0 ≤ c.toInt ∧ c.toInt ≤ 255)) = true) : Lat cs := fun c hc => of_decide_eq_true (List.all_eq_true.mp q c hc)
theorem Lat.nil : Lat [] := fun _ q => nomatch q
theorem Lat.cons {c : Int32} {cs : List Int32} (q : 0 ≤ c.toInt ∧ c.toInt ≤ 255) (r : Lat cs) : Lat (c :: cs) := fun x hx => by
  rcases List.mem_cons.mp hx with rfl | hx
  · exact q
  · exact r x hx
theorem Lat.sub {cs ds : List Int32} (L : Lat cs) (q : ∀ x ∈ ds, x ∈ cs) : Lat ds := fun c hc => L c (q c hc)
theorem Lat.at {cs : List Int32} (L : Lat cs) {i : Nat} {c : Int32} (q : cs[i]? = some c) : 0 ≤ c.toInt ∧ c.toInt ≤ 255 := L c (List.mem_of_getElem? q)
abbrev SN : String := "java/lang/String"
/-- a String of the chars cs, all below 256, compact -/
def Str (Z : State) (h : Heap) (a : Addr) (cs : List Int32) : Prop := Lat cs ∧ Exa Z h a "java/lang/String" ∧ Fld Z h a "java/lang/String" "coder" "B" (.int 0) ∧ ∃ b, Fld Z h a "java/lang/String" "value" "[B" (.ref b) ∧ Ar Z h b .byte (byt cs)
/-- x is a's own cell or its array's -/
def Foot (Z : State) (h : Heap) (a x : Addr) : Prop := x = a ∨ Fld Z h a "java/lang/String" "value" "[B" (.ref x)
section
variable {l : Launch} {Z : State} {EL : List (String × Nat)} {M : Mth} {R : Room} {h h' : Heap} {W : List Addr} {k n pc : Nat} {Ls : Array Slot} {st : List Value} {Q : Option Value → Heap → List Addr → Prop} {a0 : Array Value} {tb : Tab} {a b x : Addr} {cs : List Int32} {ws : List Addr}
theorem Fld.uniq {C nm d : String} {v w : Value} (F : Fld Z h a C nm d v) (G : Fld Z h a C nm d w) : v = w := by
  obtain ⟨cell, cf, k, i, f, h1, h2, -, -, -, -, h7⟩ := F
  obtain ⟨cell', cf', k', i', f', g1, g2, -, -, -, -, g7⟩ := G
  cases h1.symm.trans g1
  cases h2.symm.trans g2
  exact Option.some.inj (h7.symm.trans g7)
theorem Str.lat (S : Str Z h a cs) : Lat cs := S.1
theorem Str.exa (S : Str Z h a cs) : Exa Z h a "java/lang/String" := S.2.1
theorem Str.cod (S : Str Z h a cs) : Fld Z h a "java/lang/String" "coder" "B" (.int 0) := S.2.2.1
theorem Str.val (S : Str Z h a cs) : ∃ b, Fld Z h a "java/lang/String" "value" "[B" (.ref b) ∧ Ar Z h b .byte (byt cs) := S.2.2.2
theorem Str.lt (S : Str Z h a cs) : a < h.size := S.2.1.lt
theorem Str.len (S : Str Z h a cs) : cs.length < 2 ^ 31 := by obtain ⟨b, -, A⟩ := S.val; simpa using A.len
theorem Str.ext (S : Str Z h a cs) (E : Ext h h') : Str Z h' a cs := by
  obtain ⟨q1, q2, q3, b, q4, q5⟩ := S
  exact ⟨q1, q2.ext E, q3.ext E, b, q4.ext E, q5.ext E⟩
theorem Str.keep (S : Str Z h a cs) (K : Keep h h' ws) (q : ∀ x ∈ ws, ¬ Foot Z h a x) : Str Z h' a cs := by
  obtain ⟨q1, q2, q3, b, q4, q5⟩ := S
  have na : a ∉ ws := fun z => q a z (Or.inl rfl)
  have nb : b ∉ ws := fun z => q b z (Or.inr q4)
  exact ⟨q1, q2.keep K, q3.keep K na, b, q4.keep K na, q5.keep K nb⟩
theorem Str.foot_lt (S : Str Z h a cs) (F : Foot Z h a x) : x < h.size := by
  obtain ⟨q1, q2, q3, b, q4, q5⟩ := S
  rcases F with rfl | F
  · exact q2.lt
  · cases Fld.uniq F q4; exact q5.lt
theorem Str.nofoot (S : Str Z h a cs) (q : h.size ≤ x) : ¬ Foot Z h a x := fun F => absurd (S.foot_lt F) (Nat.not_lt.mpr q)
theorem Str.foot_ext (S : Str Z h a cs) (E : Ext h h') (q : ¬ Foot Z h a x) : ¬ Foot Z h' a x := fun F => by
  obtain ⟨q1, q2, q3, b, q4, q5⟩ := S
  rcases F with F | F
  · exact q (Or.inl F)
  · cases Fld.uniq F (q4.ext E); exact q (Or.inr q4)
theorem Str.foot_keep (S : Str Z h a cs) (K : Keep h h' ws) (hs : ∀ x ∈ ws, ¬ Foot Z h a x) (q : ¬ Foot Z h a x) : ¬ Foot Z h' a x := fun F => by
  obtain ⟨q1, q2, q3, b, q4, q5⟩ := S
  have na : a ∉ ws := fun z => hs a z (Or.inl rfl)
  rcases F with F | F
  · exact q (Or.inl F)
  · cases Fld.uniq F (q4.keep K na); exact q (Or.inr q4)
/-- an object of another class, or an array that isn't of bytes, is no part of a String -/
theorem Str.foot_exa {C : String} {ni : Nat} (S : Str Z h a cs) (E : Exa Z h x C) (w : (Jvm.Cond.instantiable C ni).before a0 Z = true) (hn : C ≠ "java/lang/String") : ¬ Foot Z h a x := fun F => by
  obtain ⟨q1, q2, q3, b, q4, q5⟩ := S
  rcases F with rfl | F
  · exact ne_exa E q2 hn rfl
  · cases Fld.uniq F q4
    obtain ⟨c, A, -⟩ := q5
    exact ne_arr E w A rfl
theorem arr_ty {c c' : Cell} {t t' : FieldType} (A : Arr Z h a c t) (B : Arr Z h a c' t') : t = t' := by
  cases A.1.symm.trans B.1
  obtain ⟨-, k1, e1, c1, g1⟩ := A.2.1
  obtain ⟨-, k2, e2, c2, g2⟩ := B.2.1
  cases e1.symm.trans e2
  have := g1.symm.trans g2
  injection this
theorem Str.foot_arr {ni : Nat} {t : FieldType} {vs : List Value} (S : Str Z h a cs) (A : Ar Z h x t vs) (w : (Jvm.Cond.instantiable "java/lang/String" ni).before a0 Z = true) (hn : t ≠ .byte) : ¬ Foot Z h a x := fun F => by
  obtain ⟨q1, q2, q3, b, q4, q5⟩ := S
  obtain ⟨c, A, -⟩ := A
  rcases F with rfl | F
  · exact ne_arr q2 w A rfl
  · cases Fld.uniq F q4
    obtain ⟨c', A', -⟩ := q5
    exact hn (arr_ty A A')
theorem wr_keep {sl : Nat} {v : Value} (w : Wr h h' a sl v) : Keep h h' [a] := Keep.of_wr w
theorem keep_ext (E : Ext h h') : Keep h h' [] := (Keep.refl h []).ext E
theorem ext_of_keep0 (K : Keep h h' []) : Ext h h' := ext_keep (ext_refl h) K fun _ q => nomatch q
theorem all1 {P : Addr → Prop} {y : Addr} (q : P y) : ∀ x ∈ [y], P x := allS q all0
/-! ## ldc of a String constant -/
theorem Wp.ldcStr (ok : TabOk M.2.1 tb) {index nn : Nat} {text : String} (cs : List Int32) (w : (Jvm.Cond.stringLink M.1.cls index text).before a0 Z = true) (wS : ∀ a ∈ Bundle.stringAtoms, a.before a0 Z = true) (hEL : EW Z a0 EL) (hmem : (M.1.cls, index) ∈ EL) (ht : (∀ c ∈ text.toList, c.toNat < 256) ∧ text.toList.map (fun c => Value.int (Jvm.Lit.byteI c.toNat.toUInt16)) = byt cs) (hlat : Lat cs) (hlen : cs.length < 2 ^ 31)
    (hf : fnd tb pc = some (.ldc index, 2)) (hn : 4 * text.toList.length ≤ nn) (hbig : nn ≤ 536870912) (hc : k + 2 ≤ R.cells) (hl : n + (nn + 4) ≤ R.slots)
    (K : ∀ a h', Ext h h' → Str Z h' a cs → (∀ x ∈ W, ¬ Foot Z h' a x) → Wx l Z EL M R h' W (k + 2) (n + (nn + 4)) (pc + 2) Ls (.ref a :: st) Q) : Wx l Z EL M R h W k n pc Ls st Q := by
  intro p e s m args below meth c hx T vm0 H
  obtain ⟨locs, k0, X, eT, hS, hk, hZ, hown, hC, hN, hO, q1, q2, hX, hWH, hEL2⟩ := H
  obtain ⟨a, T', h', k1, b, kc, X', eT', E, hS', hk1, hZ', hown', hE, hFc, hFv, hA, -, -, hC2, -, hne, stp⟩ := ldcCH X hx.1 hZ hown w wS eT hS hk hEL hmem hC.1 (vs := byt cs) (z := Int32.ofNat cs.length) ht (Int32.ofNat_not_neg hlen) (by rw [XT.n32 hlen]; simp) (g := mkF m pc Ls st) rfl (by rw [hx.2.1]; exact fnd_ok ok hf) hn hbig hc hl
  have hO' := Own.later hC2 hO
  have S : Str Z h' a cs := ⟨hlat, hE, hFc, b, hFv, Ar.of_arv hA (by rw [XT.n32 hlen]; simp)⟩
  refine (K a h' E S (fun x hx F => ?_) p e s m args below meth c hx T' T'.vm ⟨locs, k1, X', eT', hS', hk1, hZ', hown', hC.trans hC2, hN, hO', hc, hl, ext_trans hX E, (fun q => by rw [q] at hmem; cases hmem), hEL2⟩).pre stp
  obtain ⟨n1, n2⟩ := hne x (hO' x hx).2.2
  rcases F with F | F
  · exact n1 F
  · cases Fld.uniq F hFv; exact n2 rfl
/-! ## System.arraycopy -/
theorem take_drop (vs : List Value) (d : Value) (i len : Nat) (q : i + len ≤ vs.length) : (List.range len).map (fun j => vs.getD (i + j) d) = (vs.drop i).take len := by
  apply List.ext_getElem
  · simp; omega
  · intro j h1 h2
    simp at h1
    simp [List.getD, List.getElem?_eq_getElem (show i + j < vs.length by omega)]
theorem Wp.acopy (ok : TabOk M.2.1 tb) {index i j len : Nat} {jo jq jn : Int32} {ty : FieldType} {vs vd : List Value} {rest : List Value} (A : Ar Z h a ty vs) (B : Ar Z h b ty vd) (hb : b ∈ W) (hty : refKind ty = false) (ho : jo = Int32.ofNat i) (hq : jq = Int32.ofNat j) (hn : jn = Int32.ofNat len) (h4 : i + len ≤ vs.length) (h5 : j + len ≤ vd.length)
    (w1 : (Jvm.Cond.methodLink M.1.cls index Jvm.Stand.acN).before a0 Z = true) (w2 : (Jvm.Cond.native Jvm.Stand.acN).before a0 Z = true) (w3 : (Jvm.Cond.static Jvm.Stand.acN).before a0 Z = true) (w4 : (Jvm.Cond.initialized "java/lang/System").before a0 Z = true)
    (hf : fnd tb pc = some (.invokestatic index, 3)) (hst : st = .int jn :: .int jq :: .ref b :: .int jo :: .ref a :: rest) (hsz : Ls.size = M.2.2.1) (hfr : 1 ≤ R.frames) (hlo : (rest.map fun v => v.category).sum + (nativeFrameWords "java/lang/System" "arraycopy" 5 + 11) ≤ R.locals)
    (K : ∀ h', Keep h h' [b] → Ar Z h' b ty (vd.take j ++ (vs.drop i).take len ++ vd.drop (j + len)) → Wx l Z EL M R h' W k n (pc + 3) Ls rest Q) : Wx l Z EL M R h W k n pc Ls st Q := by
  subst hst ho hq hn
  intro p e s m args below meth c hc T vm0 H
  obtain ⟨locs, k0, X, eT, hS, hk, hZ, hown, hC, hN, hO, q1, q2, hX, hWH, hEL⟩ := H
  have l1 := A.len
  have l2 := B.len
  obtain ⟨ka, A1⟩ := A.arv (.int 0)
  obtain ⟨kb, B1⟩ := B.arv (.int 0)
  have e1 : (Int32.ofNat i).toNatClampNeg = i := XT.n32 (by omega)
  have e2 : (Int32.ofNat j).toNatClampNeg = j := XT.n32 (by omega)
  have e3 : (Int32.ofNat len).toNatClampNeg = len := XT.n32 (by omega)
  have e4 : (Int32.ofNat vs.length).toNatClampNeg = vs.length := XT.n32 l1
  have e5 : (Int32.ofNat vd.length).toNatClampNeg = vd.length := XT.n32 l2
  obtain ⟨T', h', L, X', eT', N', K', A', stp⟩ := cpA X hc.1 hZ hown w1 w2 w3 w4 eT A1 B1 (us := (vs.drop i).take len) (Or.inl ⟨rfl, hty⟩) (Int32.ofNat_not_neg (by omega)) (Int32.ofNat_not_neg (by omega)) (Int32.ofNat_not_neg (by omega)) (by rw [e1, e3, e4]; exact h4) (by rw [e2, e3, e5]; exact h5) (by rw [e1, e3, take_drop _ _ _ _ h4]) (by rw [e2, e3]; exact h5) hN (hO b hb).1
    (g := mkF m pc Ls (.int (Int32.ofNat len) :: .int (Int32.ofNat j) :: .ref b :: .int (Int32.ofNat i) :: .ref a :: rest)) rfl (by rw [hc.2.2.1]; exact hsz) rfl (by rw [hc.2.1]; exact fnd_ok ok hf) hfr (W := (rest.map fun v => v.category).sum) (by show 2 * 0 + _ ≤ _; simp) hlo
  rw [e2, e3] at A'
  have C2 := CHr.keep K' (allS (hO b hb).2.2 all0) hC.1
  refine (K h' K' (Ar.of_arv A' ?_) p e s m args below meth c hc T' vm0 ⟨L, k0, X', eT', hS, Nat.le_trans hk K'.1, hZ, hown, hC.trans C2, N', Own.later C2 hO, q1, q2, ext_keep hX K' (allS (hO b hb).1 all0), hWH, hEL⟩).pre stp
  rw [e5]; simp; omega
end
end Jvm.Pilot.@@N@@.Kw
namespace Jvm.Pilot.@@N@@.Kw
open Jvm Jvm.ClassFile Sem Op Lib Jvm.Free Jvm.Stand Jvm.LawKit Jvm.RoadKit Bundle
/-! ## lists -/
theorem fill_step {cs : List Int32} {i : Nat} {c : Int32} (hc : cs[i]? = some c) (d : Value) (hd : d = .int 0) : (byt (cs.take i) ++ List.replicate (cs.length - i) d).set i (bt c) = byt (cs.take (i + 1)) ++ List.replicate (cs.length - (i + 1)) d := by
  have hi : i < cs.length := (List.getElem?_eq_some_iff.mp hc).1
  have e1 : (byt (cs.take i)).length = i := by simp; omega
  have e2 : cs.length - i = (cs.length - (i + 1)) + 1 := by omega
  rw [List.set_append_right _ _ (by rw [e1]; exact Nat.le_refl _), e1, Nat.sub_self, e2, List.replicate_succ, List.set_cons_zero, List.take_add_one, hc]
  simp
theorem list_all {xs ys : List Int32} (hl : xs.length = ys.length) (q : ∀ j, j < xs.length → xs[j]? = ys[j]?) : xs = ys := by
  apply List.ext_getElem? 
  intro j
  by_cases h : j < xs.length
  · exact q j h
  · rw [List.getElem?_eq_none (by omega), List.getElem?_eq_none (by omega)]
theorem Str.uniq {Z : State} {h : Heap} {a : Addr} {cs ds : List Int32} (S : Str Z h a cs) (T : Str Z h a ds) : cs = ds := by
  obtain ⟨q1, q2, q3, b, q4, q5⟩ := S
  obtain ⟨r1, r2, r3, d, r4, r5⟩ := T
  cases Fld.uniq q4 r4
  obtain ⟨c, A, e, -⟩ := q5
  obtain ⟨c', A', e', -⟩ := r5
  cases A.1.symm.trans A'.1
  refine byt_inj q1 r1 ?_
  have := e.symm.trans e'
  simpa using this
end Jvm.Pilot.@@N@@.Kw
namespace Jvm.Pilot.@@N@@.Kw
/-! ## the first place of a char from k on, as indexOf says it -/
def ixF : List Int32 → Int32 → Nat → Int32
  | [], _, _ => -1
  | x :: xs, c, k => if x = c then Int32.ofNat k else ixF xs c (k + 1)
theorem ixF_cons {cs : List Int32} {i : Nat} {x c : Int32} (q : cs[i]? = some x) : ixF (cs.drop i) c i = if x = c then Int32.ofNat i else ixF (cs.drop (i + 1)) c (i + 1) := by
  obtain ⟨hi, e⟩ := List.getElem?_eq_some_iff.mp q
  rw [List.drop_eq_getElem_cons hi, e]; rfl
end Jvm.Pilot.@@N@@.Kw
namespace Jvm.Pilot.@@N@@.Kw
open Jvm Jvm.ClassFile Sem Op Lib Jvm.Free Jvm.Stand Jvm.LawKit Jvm.RoadKit Bundle
/-- an array of known ints, read off the start's words -/
theorem ar_start {Z : State} {args : Array Value} {t : Term} {ty : FieldType} {vs : List Int32} (w0 : (Jvm.Cond.arrayOf t ty).before args Z = true) (w1 : (Jvm.Cond.eq (.length t) (.int (Int32.ofNat vs.length))).before args Z = true) (hl : vs.length < 2 ^ 31)
    (w2 : ∀ k v, vs[k]? = some v → (Jvm.Cond.eq (.elem t (.int (Int32.ofNat k))) (.int v)).before args Z = true) (hfit : ∀ v ∈ vs, fits ty (.int v) = true) : ∃ a, t.eval args Z none [] Z = some (.ref a) ∧ Ar Z Z.heap a ty (vs.map .int) := by
  have hlen := Cond.eq_int w1 rfl
  obtain ⟨sd, SA, hev, harrAt, -⟩ := Term.length_spec hlen
  have h31 := SBG.length_lt hev harrAt hlen
  have hsz : SA.slots.size = vs.length := by
    have e : (Term.length t).eval args Z none [] Z = some (.int (Int32.ofNat SA.slots.size)) := by simp [Term.eval, hev, harrAt, h31]
    have h2 : Int32.ofNat SA.slots.size = Int32.ofNat vs.length := by simpa using Option.some.inj (e.symm.trans hlen)
    exact (n_eq h31 hl).mp h2
  obtain ⟨c, A⟩ := Arr.start hev (Cond.before_iff.mp w0)
  have hcell : Z.heap[sd]? = some SA := by
    simp only [State.arrayAt?, Option.bind_eq_bind] at harrAt
    cases q : Z.heap[sd]? with
    | none => simp [q] at harrAt
    | some x => simp only [q, Option.bind_some] at harrAt; grind
  cases hcell.symm.trans A.1
  refine ⟨sd, hev, SA, A, ?_, by simpa using hl, fun v hv => ?_⟩
  · apply Array.ext_getElem?
    intro j
    by_cases hj : j < vs.length
    · have e0 : vs[j]? = some vs[j] := List.getElem?_eq_getElem hj
      have e1 := Cond.eq_int (w2 j _ e0) rfl
      rw [SBG.elem_at (ix := .int (Int32.ofNat j)) hev harrAt (by omega) h31 rfl] at e1
      rw [e1]; simp [e0]
    · have e1 : SA.slots[j]? = none := Array.getElem?_eq_none (by rw [hsz]; exact Nat.le_of_not_lt hj)
      have e2 : ((vs.map Value.int).toArray)[j]? = none := Array.getElem?_eq_none (by simpa using Nat.le_of_not_lt hj)
      rw [e1, e2]
  · obtain ⟨x, hx, rfl⟩ := List.mem_map.mp hv
    exact hfit x hx
end Jvm.Pilot.@@N@@.Kw
namespace Jvm.Pilot.@@N@@.Kw
def fx : List Int32 → Int32 → Nat → Option Nat
  | [], _, _ => none
  | x :: xs, c, k => if x = c then some k else fx xs c (k + 1)
theorem ixF_fx (c : Int32) : ∀ (cs : List Int32) (k : Nat), ixF cs c k = match fx cs c k with | some i => Int32.ofNat i | none => -1
  | [], _ => rfl
  | x :: xs, k => by
    unfold ixF fx
    split
    · rfl
    · exact ixF_fx c xs (k + 1)
theorem ixF_some {cs : List Int32} {c : Int32} {k i : Nat} (q : fx cs c k = some i) : ixF cs c k = Int32.ofNat i := by rw [ixF_fx, q]
theorem ixF_none {cs : List Int32} {c : Int32} {k : Nat} (q : fx cs c k = none) : ixF cs c k = -1 := by rw [ixF_fx, q]
theorem fx_spec (c : Int32) : ∀ (cs : List Int32) (k : Nat), (∃ i, fx cs c k = some (k + i) ∧ cs[i]? = some c ∧ ∀ j, j < i → cs[j]? ≠ some c) ∨ (fx cs c k = none ∧ ∀ j : Nat, cs[j]? ≠ some c)
  | [], _ => Or.inr ⟨rfl, fun j => by simp⟩
  | x :: xs, k => by
    by_cases hx : x = c
    · exact Or.inl ⟨0, by unfold fx; rw [if_pos hx]; rfl, by rw [hx]; rfl, fun j hj => absurd hj (Nat.not_lt_zero _)⟩
    · rcases fx_spec c xs (k + 1) with ⟨i, e1, e2, e3⟩ | ⟨e1, e2⟩
      · refine Or.inl ⟨i + 1, by unfold fx; rw [if_neg hx, e1]; congr 1; omega, by simpa using e2, fun j hj => ?_⟩
        cases j with
        | zero => simpa using hx
        | succ j => simpa using e3 j (by omega)
      · refine Or.inr ⟨by unfold fx; rw [if_neg hx, e1], fun j => ?_⟩
        cases j with
        | zero => simpa using hx
        | succ j => simpa using e2 j
theorem fx_drop (c : Int32) (cs : List Int32) (m : Nat) : (∃ i, fx (cs.drop m) c m = some i ∧ m ≤ i ∧ cs[i]? = some c ∧ ∀ j, m ≤ j → j < i → cs[j]? ≠ some c) ∨ (fx (cs.drop m) c m = none ∧ ∀ j, m ≤ j → cs[j]? ≠ some c) := by
  rcases fx_spec c (cs.drop m) m with ⟨i, e1, e2, e3⟩ | ⟨e1, e2⟩
  · refine Or.inl ⟨m + i, e1, by omega, by simpa using e2, fun j h1 h2 => ?_⟩
    have := e3 (j - m) (by omega)
    rw [List.getElem?_drop, show m + (j - m) = j by omega] at this; exact this
  · refine Or.inr ⟨e1, fun j h1 => ?_⟩
    have := e2 (j - m)
    rw [List.getElem?_drop, show m + (j - m) = j by omega] at this; exact this
/-- the first c from k on, in facts -/
theorem fx_of {cs : List Int32} {c : Int32} {o : Nat} (h1 : cs[o]? = some c) (h2 : ∀ j, j < o → cs[j]? ≠ some c) : fx cs c 0 = some o := by
  rcases fx_spec c cs 0 with ⟨i, e1, e2, e3⟩ | ⟨e1, e2⟩
  · rw [e1, Nat.zero_add]
    rcases Nat.lt_trichotomy i o with q | q | q
    · exact absurd e2 (h2 i q)
    · rw [q]
    · exact absurd h1 (e3 o q)
  · exact absurd h1 (e2 o)
theorem fx_no {cs : List Int32} {c : Int32} (h : ∀ j : Nat, cs[j]? ≠ some c) : fx cs c 0 = none := by
  rcases fx_spec c cs 0 with ⟨i, e1, e2, e3⟩ | ⟨e1, e2⟩
  · exact absurd e2 (h i)
  · exact e1
/-- the hash tag's braces: the first '{' and the first '}' behind it, where a char stands between -/
def tg (ks : List Int32) : Option (Nat × Nat) := match fx ks 123 0 with
  | none => none
  | some o => (match fx (ks.drop (o + 1)) 125 (o + 1) with | some c => if o + 1 < c then some (o, c) else none | none => none)
theorem tg_no1 {ks : List Int32} (h : ∀ i : Nat, ks[i]? ≠ some 123) : tg ks = none := by unfold tg; rw [fx_no h]
theorem tg_no3 {ks : List Int32} {o : Nat} (h1 : ks[o]? = some 123) (h2 : ∀ j, j < o → ks[j]? ≠ some 123) (h : ∀ j, o + 1 ≤ j → ks[j]? ≠ some 125) : tg ks = none := by
  unfold tg; rw [fx_of h1 h2]
  rcases fx_drop 125 ks (o + 1) with ⟨i, e1, e2, e3, e4⟩ | ⟨e1, e2⟩
  · exact absurd e3 (h i e2)
  · simp only [e1]
theorem tg_no2 {ks : List Int32} {o : Nat} (h1 : ks[o]? = some 123) (h2 : ∀ j, j < o → ks[j]? ≠ some 123) (h : ks[o + 1]? = some 125) : tg ks = none := by
  unfold tg; rw [fx_of h1 h2]
  rcases fx_drop 125 ks (o + 1) with ⟨i, e1, e2, e3, e4⟩ | ⟨e1, e2⟩
  · simp only [e1]
    rw [if_neg]
    intro q
    exact e4 (o + 1) (Nat.le_refl _) q h
  · simp only [e1]
theorem tg_yes {ks : List Int32} {o j : Nat} (h1 : ks[o]? = some 123) (h2 : ∀ j, j < o → ks[j]? ≠ some 123) (h3 : ks[o + 1]? ≠ some 125) (h4 : o + 1 ≤ j) (h5 : ks[j]? = some 125) : ∃ c, tg ks = some (o, c) := by
  unfold tg; rw [fx_of h1 h2]
  rcases fx_drop 125 ks (o + 1) with ⟨i, e1, e2, e3, e4⟩ | ⟨e1, e2⟩
  · refine ⟨i, ?_⟩
    simp only [e1]
    rw [if_pos]
    rcases Nat.lt_or_eq_of_le e2 with q | q
    · exact q
    · rw [← q] at e3; exact absurd e3 h3
  · exact absurd h5 (e2 j h4)
theorem tg_inv {ks : List Int32} {o c : Nat} (h : tg ks = some (o, c)) : fx ks 123 0 = some o ∧ fx (ks.drop (o + 1)) 125 (o + 1) = some c ∧ o + 1 < c ∧ c < ks.length ∧ o < ks.length ∧ ks[o]? = some 123 ∧ ks[c]? = some 125 ∧ (∀ j, j < o → ks[j]? ≠ some 123) ∧ ∀ j, o + 1 ≤ j → j < c → ks[j]? ≠ some 125 := by
  unfold tg at h
  rcases fx_spec 123 ks 0 with ⟨i, e1, e2, e3⟩ | ⟨e1, e2⟩
  · rw [e1] at h
    rw [Nat.zero_add] at h e1
    rcases fx_drop 125 ks (i + 1) with ⟨d, f1, f2, f3, f4⟩ | ⟨f1, f2⟩
    · simp only [f1] at h
      split at h
      · rename_i q
        simp only [Option.some.injEq, Prod.mk.injEq] at h
        obtain ⟨rfl, rfl⟩ := h
        exact ⟨e1, f1, q, (List.getElem?_eq_some_iff.mp f3).1, (List.getElem?_eq_some_iff.mp e2).1, e2, f3, e3, f4⟩
      · cases h
    · simp only [f1] at h; cases h
  · rw [e1] at h; cases h
/-- where there is no tag: no '{', or no '}' behind it, or it stands right behind -/
theorem tg_none {ks : List Int32} (h : tg ks = none) : fx ks 123 0 = none ∨ ∃ o, fx ks 123 0 = some o ∧ o < ks.length ∧ (fx (ks.drop (o + 1)) 125 (o + 1) = none ∨ fx (ks.drop (o + 1)) 125 (o + 1) = some (o + 1)) := by
  unfold tg at h
  rcases fx_spec 123 ks 0 with ⟨i, e1, e2, e3⟩ | ⟨e1, e2⟩
  · rw [e1] at h
    rw [Nat.zero_add] at h e1
    refine Or.inr ⟨i, e1, (List.getElem?_eq_some_iff.mp e2).1, ?_⟩
    rcases fx_drop 125 ks (i + 1) with ⟨d, f1, f2, f3, f4⟩ | ⟨f1, f2⟩
    · simp only [f1] at h
      split at h
      · cases h
      · rename_i q; exact Or.inr (by rw [f1]; congr 1; omega)
    · exact Or.inl f1
  · exact Or.inl e1
end Jvm.Pilot.@@N@@.Kw
namespace Jvm.Pilot.@@N@@.Kw
open Jvm Jvm.ClassFile Sem Op Lib Jvm.Free Jvm.Stand Jvm.LawKit Jvm.RoadKit Bundle
section Calls2
variable {l : Launch} {Z : State} {EL : List (String × Nat)} {M : Mth} {R : Room} {h : Heap} {W : List Addr} {k n pc : Nat} {Ls : Array Slot} {st : List Value} {Q : Option Value → Heap → List Addr → Prop} {a0 : Array Value} {tb : Tab}
theorem nf_cls {s : State} {args : Array Value} {C : String} {z y : MethodName} (w : (Jvm.Cond.selects C z z).before args s = true) (e : z.cls = y.cls) : NotFace s y := fun r0 h0 => by
  obtain ⟨c2, r2, m2, -, -, q3, -, -⟩ := Cond.selects_spec w
  obtain ⟨kr, hk, hi⟩ := notFace_of_selects w m2 q3
  have e1 := findClass_of_methodNamed q3
  have e2 := findClass_of_methodNamed h0
  rw [e] at e1
  have e3 : m2.cls = r0.cls := Option.some.inj (e1.symm.trans e2)
  exact ⟨kr, by rw [← e3]; exact hk, hi⟩
theorem same_of {s : State} {args : Array Value} {y : MethodName} (hd : (Jvm.Cond.declares y).before args s = true) (hnf : NotFace s y) (hy : noH y) : (Jvm.Cond.sameMethod y.cls y.cls y.name y.desc).before args s = true := by
  obtain ⟨r0, r, hn, hrm, -, -⟩ := Cond.declares_spec hd
  have hf := State.methodFound?_of_named hn hy
  have hc := findClass_of_methodNamed hn
  obtain ⟨kr, hk, hi⟩ := hnf r0 hn
  have hn' : s.methodNamed? ⟨y.cls, y.name, y.desc⟩ = some r0 := hn
  simp [Cond.before, Cond.holds, Cond.value, hc, hf, hn', hk, hi]
/-- invokevirtual of y, on an object of the class cC, for which the call goes to M' -/
theorem Wp.callV2 (ok : TabOk M.2.1 tb) {M' : Mth} {y z : MethodName} {rm : Room} {index : Nat} {W' : List Addr} {Q' : Option Value → Heap → Prop} {a : Addr} {argsL rest : List Value} {ps : List FieldType} {rt : Option FieldType} {cC : String} (C : Ct l Z EL M' rm (.ref a :: argsL).toArray h W' Q') (E : Exa Z h a cC) (hEL : EW Z a0 EL) (w1 : (Jvm.Cond.methodLink M.1.cls index y).before a0 Z = true) (wd : (Jvm.Cond.declares y).before a0 Z = true) (wn : (Jvm.Cond.selects cC z z).before a0 Z = true) (ez : z.cls = y.cls) (ws : (Jvm.Cond.selects cC y M'.1).before a0 Z = true) (w2 : (Jvm.Cond.instanceMethod M'.1).before a0 Z = true) (wz : (Jvm.Cond.initialized M'.1.cls).before a0 Z = true) (wc : (Jvm.Cond.code M'.1 M'.2.1 M'.2.2.1 M'.2.2.2).before a0 Z = true)
    (hf : fnd tb pc = some (.invokevirtual index, 3)) (hst : st = argsL.reverse ++ .ref a :: rest) (hy : noH y) (hd : parseMethodDescriptor y.desc = some ⟨ps, rt⟩) (hlen : argsL.length = ps.length) (hsz : Ls.size = M.2.2.1) (hfr : rm.frames + 1 ≤ R.frames) (hl : (rest.map fun v => v.category).sum + (M'.2.2.1 + 11) + rm.locals ≤ R.locals) (hce : k + rm.cells ≤ R.cells) (hsl : n + rm.slots ≤ R.slots) (hW : ∀ a ∈ W', a ∈ W)
    (K : ∀ v h', Q' v h' → h.size ≤ h'.size → Wx l Z EL M R h' W (k + rm.cells) (n + rm.slots) (pc + 3) Ls (v.toList ++ rest) Q) : Wx l Z EL M R h W k n pc Ls st Q := by
  subst hst
  refine Wp.call C hEL wc wz hfr hl hce hsl hW (fun {p e s vm0 m args below meth c T locs Pre Post} hc X eT hZ hown hB hpre => ?_) K
  obtain ⟨cq, kq, qa, qb, qc⟩ := isOf (s := s.setVm vm0) hZ eT E
  exact X.virtualBackS hc.1 (y := y) (z := M'.1) hown (mvT (s := s.setVm vm0) hZ w1) (mvT (s := s.setVm vm0) hZ wd) (nf_cls (args := #[]) (mvT (s := s.setVm vm0) hZ wn) ez) (mvT (s := s.setVm vm0) hZ ws) (mvT (s := s.setVm vm0) hZ w2) hy hB qa qc (g := mkF m pc Ls (argsL.reverse ++ .ref a :: rest)) rfl (by rw [hc.2.2.1]; exact hsz) (Steps.refl _) (argsL := argsL) (rest := rest) (lenOf hd hlen) rfl (by show 2 * 0 + _ ≤ _; simp) (by rw [hc.2.1]; exact fnd_ok ok hf) hpre
/-- a private instance method, by the word that the receiver's class selects it -/
theorem Wp.callP2 (ok : TabOk M.2.1 tb) {M' : Mth} {rm : Room} {index : Nat} {W' : List Addr} {Q' : Option Value → Heap → Prop} {a : Addr} {argsL rest : List Value} {ps : List FieldType} {rt : Option FieldType} {cC : String} (C : Ct l Z EL M' rm (.ref a :: argsL).toArray h W' Q') (E : Exa Z h a cC) (hEL : EW Z a0 EL) (w1 : (Jvm.Cond.methodLink M.1.cls index M'.1).before a0 Z = true) (ws : (Jvm.Cond.selects cC M'.1 M'.1).before a0 Z = true) (wp : (Jvm.Cond.privateMethod M'.1).before a0 Z = true) (w2 : (Jvm.Cond.instanceMethod M'.1).before a0 Z = true) (wz : (Jvm.Cond.initialized M'.1.cls).before a0 Z = true) (wc : (Jvm.Cond.code M'.1 M'.2.1 M'.2.2.1 M'.2.2.2).before a0 Z = true)
    (hf : fnd tb pc = some (.invokevirtual index, 3)) (hst : st = argsL.reverse ++ .ref a :: rest) (hy : noH M'.1) (hd : parseMethodDescriptor M'.1.desc = some ⟨ps, rt⟩) (hlen : argsL.length = ps.length) (hsz : Ls.size = M.2.2.1) (hfr : rm.frames + 1 ≤ R.frames) (hl : (rest.map fun v => v.category).sum + (M'.2.2.1 + 11) + rm.locals ≤ R.locals) (hce : k + rm.cells ≤ R.cells) (hsl : n + rm.slots ≤ R.slots) (hW : ∀ a ∈ W', a ∈ W)
    (K : ∀ v h', Q' v h' → h.size ≤ h'.size → Wx l Z EL M R h' W (k + rm.cells) (n + rm.slots) (pc + 3) Ls (v.toList ++ rest) Q) : Wx l Z EL M R h W k n pc Ls st Q := by
  have q : (Jvm.Cond.selects M'.1.cls M'.1 M'.1).before a0 Z = true := by
    obtain ⟨c2, r2, m2, -, -, q3, -, -⟩ := Cond.selects_spec ws
    obtain ⟨kr, hk, hi⟩ := notFace_of_selects ws m2 q3
    exact selects_self_of_private (findClass_of_methodNamed q3) hk hi (Cond.privateMethod_at wp) w2 hy
  exact Wp.callP ok C E hEL w1 q wp w2 wz wc hf hst hy hd hlen hsz hfr hl hce hsl hW K
/-- invokespecial of a superclass's method -/
theorem Wp.callU (ok : TabOk M.2.1 tb) {M' : Mth} {z : MethodName} {rm : Room} {index : Nat} {W' : List Addr} {Q' : Option Value → Heap → Prop} {a : Addr} {argsL rest : List Value} {ps : List FieldType} {rt : Option FieldType} {cC cD : String} (C : Ct l Z EL M' rm (.ref a :: argsL).toArray h W' Q') (E : Exa Z h a cC) (hEL : EW Z a0 EL) (w1 : (Jvm.Cond.methodLink M.1.cls index M'.1).before a0 Z = true) (wd : (Jvm.Cond.declares M'.1).before a0 Z = true) (wn : (Jvm.Cond.selects cD z z).before a0 Z = true) (ez : z.cls = M'.1.cls) (wu : (Jvm.Cond.superclass M.1.cls M'.1.cls).before a0 Z = true) (w2 : (Jvm.Cond.instanceMethod M'.1).before a0 Z = true) (wz : (Jvm.Cond.initialized M'.1.cls).before a0 Z = true) (wc : (Jvm.Cond.code M'.1 M'.2.1 M'.2.2.1 M'.2.2.2).before a0 Z = true)
    (hf : fnd tb pc = some (.invokespecial index, 3)) (hst : st = argsL.reverse ++ .ref a :: rest) (hi : M'.1.name ≠ "<init>") (hy : noH M'.1) (hd : parseMethodDescriptor M'.1.desc = some ⟨ps, rt⟩) (hlen : argsL.length = ps.length) (hsz : Ls.size = M.2.2.1) (hfr : rm.frames + 1 ≤ R.frames) (hl : (rest.map fun v => v.category).sum + (M'.2.2.1 + 11) + rm.locals ≤ R.locals) (hce : k + rm.cells ≤ R.cells) (hsl : n + rm.slots ≤ R.slots) (hW : ∀ a ∈ W', a ∈ W)
    (K : ∀ v h', Q' v h' → h.size ≤ h'.size → Wx l Z EL M R h' W (k + rm.cells) (n + rm.slots) (pc + 3) Ls (v.toList ++ rest) Q) : Wx l Z EL M R h W k n pc Ls st Q := by
  subst hst
  refine Wp.call C hEL wc wz hfr hl hce hsl hW (fun {p e s vm0 m args below meth c T locs Pre Post} hc X eT hZ hown hB hpre => ?_) K
  exact superBackS X hc.1 (s := s.setVm vm0) hZ hown w1 (same_of wd (nf_cls wn ez) hy) w2 wu hi hB eT (Ins.self E) (g := mkF m pc Ls (argsL.reverse ++ .ref a :: rest)) rfl (by rw [hc.2.2.1]; exact hsz) wc (argsL := argsL) (rest := rest) (lenOf hd hlen) rfl (by show 2 * 0 + _ ≤ _; simp) (by rw [hc.2.1]; exact fnd_ok ok hf) hpre
end Calls2
end Jvm.Pilot.@@N@@.Kw
namespace Jvm.Pilot.@@N@@.Kw
open Jvm Jvm.ClassFile Sem Op Lib Jvm.Free Jvm.Stand Jvm.LawKit Jvm.RoadKit Bundle
/-! ## a StringBuilder of sixteen bytes, compact -/
def Bld (Z : State) (h : Heap) (a b : Addr) (cs : List Int32) : Prop := Lat cs ∧ cs.length ≤ 16 ∧ Exa Z h a "java/lang/StringBuilder" ∧ Fld Z h a "java/lang/AbstractStringBuilder" "value" "[B" (.ref b) ∧ Fld Z h a "java/lang/AbstractStringBuilder" "coder" "B" (.int 0) ∧ Fld Z h a "java/lang/AbstractStringBuilder" "count" "I" (.int (Int32.ofNat cs.length)) ∧ Ar Z h b .byte (byt cs ++ List.replicate (16 - cs.length) (.int 0))
theorem Bld.ext {Z : State} {h h' : Heap} {a b : Addr} {cs : List Int32} (B : Bld Z h a b cs) (E : Ext h h') : Bld Z h' a b cs := by
  obtain ⟨q1, q2, q3, q4, q5, q6, q7⟩ := B
  exact ⟨q1, q2, q3.ext E, q4.ext E, q5.ext E, q6.ext E, q7.ext E⟩
theorem Bld.exa {Z : State} {h : Heap} {a b : Addr} {cs : List Int32} (B : Bld Z h a b cs) : Exa Z h a "java/lang/StringBuilder" := B.2.2.1
theorem own_keep2 {h h1 h2 : Heap} {a b : Addr} {sl : Nat} {v : Value} (K : Keep h h1 [b]) (w : Wr h1 h2 a sl v) : Keep h h2 [b, a] := by
  have K' : Keep h h1 [b, a] := ⟨K.1, fun x c q r => K.2.1 x c q (fun z => r (by rcases List.mem_singleton.mp z with rfl; exact List.mem_cons_self ..)), K.2.2⟩
  exact K'.wr w (Or.inl (List.mem_cons_of_mem _ (List.mem_cons_self ..)))
theorem shl0 (x : Int32) : x <<< ((0 : Int32) &&& 31) = x := by
  show x <<< (0 : Int32) = x
  exact Int32.shiftLeft_zero
theorem n_subneg {m k : Nat} (hm : m ≤ k) (hk : k < 2 ^ 31) : ¬ (0 : Int32) < Int32.ofNat m - Int32.ofNat k := by
  rw [Int32.lt_iff_toInt_lt, XT.sub32 ⟨by rw [n_int (by omega), n_int hk]; omega, by rw [n_int (by omega), n_int hk]; omega⟩, n_int (by omega), n_int hk]
  simp; omega
theorem bld_put {cs ds : List Int32} (q : cs.length + ds.length ≤ 16) : (byt cs ++ List.replicate (16 - cs.length) (Value.int 0)).take cs.length ++ ((byt ds).drop 0).take (byt ds).length ++ (byt cs ++ List.replicate (16 - cs.length) (Value.int 0)).drop (cs.length + (byt ds).length) = byt (cs ++ ds) ++ List.replicate (16 - (cs ++ ds).length) (Value.int 0) := by
  have t1 : (byt cs ++ List.replicate (16 - cs.length) (Value.int 0)).take cs.length = byt cs := by
    rw [List.take_append_of_le_length (by simp)]; exact List.take_of_length_le (by simp)
  have t2 : ((byt ds).drop 0).take (byt ds).length = byt ds := by rw [List.drop_zero, List.take_length]
  have t3 : (byt cs ++ List.replicate (16 - cs.length) (Value.int 0)).drop (cs.length + (byt ds).length) = List.replicate (16 - (cs ++ ds).length) (Value.int 0) := by
    rw [List.drop_append, List.drop_eq_nil_of_le (by simp), List.nil_append, List.drop_replicate]
    congr 1; simp; omega
  rw [t1, t2, t3, byt, byt, byt, List.map_append]
theorem bld_take {cs : List Int32} (q : cs.length ≤ 16) : ((byt cs ++ List.replicate (16 - cs.length) (Value.int 0)).drop 0).take (cs.length - 0) = byt cs := by
  rw [List.drop_zero, Nat.sub_zero, List.take_append_of_le_length (by simp)]
  have e1 : (byt cs).length = cs.length := by simp
  rw [← e1, List.take_length]
end Jvm.Pilot.@@N@@.Kw
namespace Jvm.Pilot.@@N@@
open Jvm Jvm.ClassFile Sem Op Lib Jvm.Free Jvm.Stand Jvm.LawKit Jvm.RoadKit Bundle Jvm.Pilot.@@N@@.Jvm.D Jvm.Pilot.@@N@@.Kw
abbrev EL1 : List (String × Nat) := consts_1
def Gd (Z : State) (a0 : Array Value) : Prop := (∀ d ∈ tables_1, d.before a0 Z = true) ∧ EW Z a0 EL1 ∧ (∃ v, Sta Z Z.heap "java/lang/String" "COMPACT_STRINGS" "Z" (.int v) ∧ ¬ v = 0) ∧ (∃ f, Sta Z Z.heap "jdk/internal/util/Preconditions" "SIOOBE_FORMATTER" "Ljava/util/function/BiFunction;" f ∧ f.isRef = true) ∧ True
theorem wS {Z : State} {a0 : Array Value} (G : Gd Z a0) : ∀ a ∈ Bundle.stringAtoms, a.before a0 Z = true := by
  intro a ha
  simp only [Bundle.stringAtoms, List.mem_cons, List.not_mem_nil, or_false] at ha
  rcases ha with rfl | rfl | rfl | rfl | rfl | rfl | rfl
  · exact (G.1 _ (List.mem_of_getElem? (i := 11) rfl))
  · exact (G.1 _ (List.mem_of_getElem? (i := 10) rfl))
  · exact (G.1 _ (List.mem_of_getElem? (i := 28) rfl))
  · exact (G.1 _ (List.mem_of_getElem? (i := 38) rfl))
  · exact (G.1 _ (List.mem_of_getElem? (i := 36) rfl))
  · exact (G.1 _ (List.mem_of_getElem? (i := 40) rfl))
  · exact (G.1 _ (List.mem_of_getElem? (i := 41) rfl))
abbrev mt_cmp5 : Mth := (⟨"java/lang/StringUTF16", "compress", "([CI[BII)I"⟩, jdk_52_method_21_code, 7, some .int)
def tb_cmp5 : Tab := [(0, .iconst 0, 1), (1, .istore 5, 2), (3, .iload 5, 2), (5, .iload 4, 2), (7, .if_icmp .ge 37, 3), (10, .aload_n 0, 1), (11, .iload_n 1, 1), (12, .caload, 1), (13, .istore 6, 2), (15, .iload 6, 2), (17, .sipush 255, 3), (20, .if_icmp .le 6, 3), (23, .iload 5, 2), (25, .ireturn, 1), (26, .aload_n 2, 1), (27, .iload_n 3, 1), (28, .iload 6, 2), (30, .i2b, 1), (31, .bastore, 1), (32, .iinc 1 1, 3), (35, .iinc 3 1, 3), (38, .iinc 5 1, 3), (41, .goto (-38), 3), (44, .iload 4, 2), (46, .ireturn, 1)]
theorem ok_cmp5 : TabOk mt_cmp5.2.1 tb_cmp5 := by
  intro x hx
  have q : tb_cmp5.all (fun x => decide (decode jdk_52_method_21_code x.1 = .ok x.2)) = true := by decide +kernel
  exact of_decide_eq_true (List.all_eq_true.mp q x hx)
theorem pl_cmp5 : plainFor mt_cmp5.1 = true := by first | decide +kernel | exact plainFor_of_name (by first | (simp [plainName, overriddenIn]; done) | decide +kernel)
theorem pd_cmp5 : parseMethodDescriptor "([CI[BII)I" = some ⟨[(.array .char), .int, (.array .byte), .int, .int], some .int⟩ := by decide +kernel

set_option maxRecDepth 65536 in
set_option maxHeartbeats 4000000 in
theorem lp_cmp5 {l : Launch} {Z : State} {a0 : Array Value} (G : Gd Z a0) {b d : Addr} {cs : List Int32} {h : Heap} (hlat : Lat cs) (hl31 : cs.length < 2 ^ 31) (A : Ar Z h b .char (cs.map .int)) (hbd : b ≠ d) : ∀ (r i : Nat), i + r = cs.length → ∀ (z : Slot), Sl1 z → ∀ h1, Keep h h1 [d] → Ar Z h1 d .byte (byt (cs.take i) ++ List.replicate (cs.length - i) (.int 0)) →
    Wp l Z EL1 mt_cmp5 ({ frames := 0, cells := 0, slots := 0, locals := 0 } : Room) h1 [d] 0 0 3 #[.val (.ref b), .val (.int (Int32.ofNat i)), .val (.ref d), .val (.int (Int32.ofNat i)), .val (.int (Int32.ofNat cs.length)), .val (.int (Int32.ofNat i)), z] [] (fun v h' => v = some (.int (Int32.ofNat cs.length)) ∧ Keep h h' [d] ∧ Ar Z h' d .byte (byt cs)) := by
  intro r
  induction r with
  | zero =>
    intro i hi z hz h1 K1 B1
    obtain rfl : i = cs.length := by omega
    refine Wp.run ok_cmp5 2 7 #[.val (.ref b), .val (.int (Int32.ofNat cs.length)), .val (.ref d), .val (.int (Int32.ofNat cs.length)), .val (.int (Int32.ofNat cs.length)), .val (.int (Int32.ofNat cs.length)), z] [(.int (Int32.ofNat cs.length)), (.int (Int32.ofNat cs.length))] rfl ?_
    refine Wp.icmpT ok_cmp5 44 rfl rfl (show ¬ (Int32.ofNat cs.length) < (Int32.ofNat cs.length) from Int32.lt_irrefl) (by decide) (by decide) ?_
    refine Wp.run ok_cmp5 1 46 #[.val (.ref b), .val (.int (Int32.ofNat cs.length)), .val (.ref d), .val (.int (Int32.ofNat cs.length)), .val (.int (Int32.ofNat cs.length)), .val (.int (Int32.ofNat cs.length)), z] [(.int (Int32.ofNat cs.length))] rfl ?_
    exact Wp.retI ok_cmp5 (t := .int) rfl (by decide) rfl rfl rfl ⟨rfl, K1, by simpa using B1⟩
  | succ r ih =>
    intro i hi z hz h1 K1 B1
    obtain ⟨c, hc⟩ : ∃ c, cs[i]? = some c := ⟨_, List.getElem?_eq_getElem (by omega)⟩
    refine Wp.run ok_cmp5 2 7 #[.val (.ref b), .val (.int (Int32.ofNat i)), .val (.ref d), .val (.int (Int32.ofNat i)), .val (.int (Int32.ofNat cs.length)), .val (.int (Int32.ofNat i)), z] [(.int (Int32.ofNat cs.length)), (.int (Int32.ofNat i))] rfl ?_
    refine Wp.icmpF ok_cmp5 rfl rfl (show (Int32.ofNat i) < (Int32.ofNat cs.length) from (n_lt (by omega) (by omega)).mpr (by omega)) ?_
    refine Wp.run ok_cmp5 2 12 #[.val (.ref b), .val (.int (Int32.ofNat i)), .val (.ref d), .val (.int (Int32.ofNat i)), .val (.int (Int32.ofNat cs.length)), .val (.int (Int32.ofNat i)), z] [(.int (Int32.ofNat i)), (.ref b)] rfl ?_
    refine Wp.aget ok_cmp5 (A.keep K1 (ninS hbd nin0)) (i := i) (v := (.int c)) rfl (by simp [hc]) rfl rfl rfl ?_
    refine Wp.istoreS ok_cmp5 hz rfl rfl rfl ?_
    refine Wp.run ok_cmp5 2 20 #[.val (.ref b), .val (.int (Int32.ofNat i)), .val (.ref d), .val (.int (Int32.ofNat i)), .val (.int (Int32.ofNat cs.length)), .val (.int (Int32.ofNat i)), .val (.int c)] [(.int (255 : Int32)), (.int c)] rfl ?_
    refine Wp.icmpT ok_cmp5 26 rfl rfl (show ¬ (255 : Int32) < c from Int32.not_lt.mpr (Int32.le_iff_toInt_le.mpr (by have := (hlat.at hc).2; simpa using this))) (by decide) (by decide) ?_
    refine Wp.run ok_cmp5 4 31 #[.val (.ref b), .val (.int (Int32.ofNat i)), .val (.ref d), .val (.int (Int32.ofNat i)), .val (.int (Int32.ofNat cs.length)), .val (.int (Int32.ofNat i)), .val (.int c)] [(.int (lo8 c)), (.int (Int32.ofNat i)), (.ref d)] rfl ?_
    refine Wp.aput ok_cmp5 B1 (List.mem_of_getElem? (i := 0) rfl) (i := i) rfl (by simp; omega) rfl (fits_bt c) rfl rfl rfl ?_
    intro h2 w2 B2
    refine Wp.run ok_cmp5 4 3 #[.val (.ref b), .val (.int ((Int32.ofNat i) + (1 : Int32))), .val (.ref d), .val (.int ((Int32.ofNat i) + (1 : Int32))), .val (.int (Int32.ofNat cs.length)), .val (.int ((Int32.ofNat i) + (1 : Int32))), .val (.int c)] [] rfl ?_
    refine Wp.at #[.val (.ref b), .val (.int (Int32.ofNat (i + 1))), .val (.ref d), .val (.int (Int32.ofNat (i + 1))), .val (.int (Int32.ofNat cs.length)), .val (.int (Int32.ofNat (i + 1))), .val (.int c)] [] ⟨by simp only [n_succ], rfl⟩ ?_
    refine ih (i + 1) (by omega) _ (Sl1.int _) h2 (K1.trans (wr_keep w2) (fun x hx => Or.inl hx)) ?_
    have q : (byt (cs.take i) ++ List.replicate (cs.length - i) (Value.int 0)).set i (bt c) = byt (cs.take (i + 1)) ++ List.replicate (cs.length - (i + 1)) (Value.int 0) := fill_step hc _ rfl
    rw [← q]; exact B2

set_option maxRecDepth 65536 in
set_option maxHeartbeats 4000000 in
theorem ct_cmp5 {l : Launch} {Z : State} {a0 : Array Value} (G : Gd Z a0) {b d : Addr} {cs : List Int32} (hlat : Lat cs) (h : Heap) (hl31 : cs.length < 2 ^ 31) (A : Ar Z h b .char (cs.map .int)) (B : Ar Z h d .byte (List.replicate cs.length (.int 0))) :
    Ct l Z EL1 mt_cmp5 ({ frames := 0, cells := 0, slots := 0, locals := 0 } : Room) #[(.ref b), (.int 0), (.ref d), (.int 0), (.int (Int32.ofNat cs.length))] h [d] (fun v h' => v = some (.int (Int32.ofNat cs.length)) ∧ Keep h h' [d] ∧ Ar Z h' d .byte (byt cs)) := by
  refine Ct.of_wp pl_cmp5 G.2.1 (Ls := #[.val (.ref b), .val (.int 0), .val (.ref d), .val (.int 0), .val (.int (Int32.ofNat cs.length)), .unset, .unset]) rfl ?_
  refine Wp.run ok_cmp5 2 3 #[.val (.ref b), .val (.int 0), .val (.ref d), .val (.int 0), .val (.int (Int32.ofNat cs.length)), .val (.int (0 : Int32)), .unset] [] rfl ?_
  refine Wp.at #[.val (.ref b), .val (.int 0), .val (.ref d), .val (.int 0), .val (.int (Int32.ofNat cs.length)), .val (.int (0 : Int32)), .unset] [] ⟨rfl, rfl⟩ ?_
  exact lp_cmp5 G hlat hl31 A (fun q => by subst q; obtain ⟨c1, A1, -⟩ := A; obtain ⟨c2, A2, -⟩ := B; exact absurd (arr_ty A1 A2) (by decide)) cs.length 0 (by omega) _ Sl1.unset h (Keep.refl _ _) (by simpa using B)

abbrev mt_cmp3 : Mth := (⟨"java/lang/StringUTF16", "compress", "([CII)[B"⟩, jdk_52_method_16_code, 6, some (.array .byte))
def tb_cmp3 : Tab := [(0, .iload_n 2, 1), (1, .newarray .byte, 2), (3, .astore_n 3, 1), (4, .aload_n 0, 1), (5, .iload_n 1, 1), (6, .aload_n 3, 1), (7, .iconst 0, 1), (8, .iload_n 2, 1), (9, .invokestatic 115, 3), (12, .istore 4, 2), (14, .iload 4, 2), (16, .iload_n 2, 1), (17, .if_icmp .eq 40, 3), (20, .aload_n 0, 1), (21, .iload_n 1, 1), (22, .iload_n 2, 1), (23, .invokestatic 119, 3), (26, .astore 5, 2), (28, .aload 5, 2), (30, .iload 4, 2), (32, .invokestatic 71, 3), (35, .sipush 255, 3), (38, .if_icmp .gt 16, 3), (41, .aload 5, 2), (43, .iconst 0, 1), (44, .aload_n 3, 1), (45, .iconst 0, 1), (46, .iload_n 2, 1), (47, .invokestatic 123, 3), (50, .iload_n 2, 1), (51, .if_icmp .eq 6, 3), (54, .aload 5, 2), (56, .areturn, 1), (57, .aload_n 3, 1), (58, .areturn, 1)]
theorem ok_cmp3 : TabOk mt_cmp3.2.1 tb_cmp3 := by
  intro x hx
  have q : tb_cmp3.all (fun x => decide (decode jdk_52_method_16_code x.1 = .ok x.2)) = true := by decide +kernel
  exact of_decide_eq_true (List.all_eq_true.mp q x hx)
theorem pl_cmp3 : plainFor mt_cmp3.1 = true := by first | decide +kernel | exact plainFor_of_name (by first | (simp [plainName, overriddenIn]; done) | decide +kernel)
theorem pd_cmp3 : parseMethodDescriptor "([CII)[B" = some ⟨[(.array .char), .int, .int], some (.array .byte)⟩ := by decide +kernel

set_option maxRecDepth 65536 in
set_option maxHeartbeats 4000000 in
theorem ct_cmp3 {l : Launch} {Z : State} {a0 : Array Value} (G : Gd Z a0) {b : Addr} {cs : List Int32} (hlat : Lat cs) (hcap : cs.length ≤ 16) (h : Heap) (A : Ar Z h b .char (cs.map .int)) :
    Ct l Z EL1 mt_cmp3 ({ frames := 1, cells := 1, slots := 16, locals := 18 } : Room) #[(.ref b), (.int 0), (.int (Int32.ofNat cs.length))] h [] (fun v h' => ∃ d, v = some (.ref d) ∧ Ext h h' ∧ Ar Z h' d .byte (byt cs) ∧ h.size ≤ d) := by
  refine Ct.of_wp pl_cmp3 G.2.1 (Ls := #[.val (.ref b), .val (.int 0), .val (.int (Int32.ofNat cs.length)), .unset, .unset, .unset]) rfl ?_
  refine Wp.run ok_cmp3 1 1 #[.val (.ref b), .val (.int 0), .val (.int (Int32.ofNat cs.length)), .unset, .unset, .unset] [(.int (Int32.ofNat cs.length))] rfl ?_
  refine Wp.newP ok_cmp3 (len := cs.length) (cap := 16) (G.1 _ (List.mem_of_getElem? (i := 28) rfl)) rfl rfl rfl hcap (Nat.le_of_ble_eq_true rfl) (Nat.le_of_ble_eq_true rfl) (Nat.le_of_ble_eq_true rfl) ?_
  intro h1 E1 B1
  refine Wp.run ok_cmp3 6 9 #[.val (.ref b), .val (.int 0), .val (.int (Int32.ofNat cs.length)), .val (.ref h.size), .unset, .unset] [(.int (Int32.ofNat cs.length)), (.int (0 : Int32)), (.ref h.size), (.int 0), (.ref b)] rfl ?_
  refine Wp.callS ok_cmp3 (argsL := [(.ref b), (.int 0), (.ref h.size), (.int (0 : Int32)), (.int (Int32.ofNat cs.length))]) (rest := []) (ct_cmp5 G hlat h1 (by omega) (A.ext E1) B1) G.2.1 (G.1 _ (List.mem_of_getElem? (i := 29) rfl)) (G.1 _ (List.mem_of_getElem? (i := 30) rfl)) (G.1 _ (List.mem_of_getElem? (i := 26) rfl)) (G.1 _ (List.mem_of_getElem? (i := 31) rfl)) rfl rfl (by decide) pd_cmp5 rfl rfl (Nat.le_of_ble_eq_true rfl) (Nat.le_of_ble_eq_true rfl) (Nat.le_of_ble_eq_true rfl) (Nat.le_of_ble_eq_true rfl) (allS (List.mem_of_getElem? (i := 0) rfl) all0) ?_
  rintro _ h2 ⟨rfl, K2, B2⟩ -
  refine Wp.run ok_cmp3 3 17 #[.val (.ref b), .val (.int 0), .val (.int (Int32.ofNat cs.length)), .val (.ref h.size), .val (.int (Int32.ofNat cs.length)), .unset] [(.int (Int32.ofNat cs.length)), (.int (Int32.ofNat cs.length))] rfl ?_
  refine Wp.icmpT ok_cmp3 57 rfl rfl (show (Int32.ofNat cs.length) = (Int32.ofNat cs.length) from rfl) (by decide) (by decide) ?_
  refine Wp.run ok_cmp3 1 58 #[.val (.ref b), .val (.int 0), .val (.int (Int32.ofNat cs.length)), .val (.ref h.size), .val (.int (Int32.ofNat cs.length)), .unset] [(.ref h.size)] rfl ?_
  exact Wp.retA ok_cmp3 (t := (.array .byte)) rfl rfl rfl rfl rfl ⟨_, rfl, ext_keep E1 K2 (all1 (Nat.le_refl _)), B2, Nat.le_refl _⟩

abbrev mt_cfal : Mth := (⟨"java/lang/StringUTF16", "coderFromArrayLen", "([BI)B"⟩, jdk_52_method_15_code, 2, some .byte)
def tb_cfal : Tab := [(0, .iload_n 1, 1), (1, .aload_n 0, 1), (2, .arraylength, 1), (3, .isub, 1), (4, .bipush 31, 2), (6, .iushr, 1), (7, .i2b, 1), (8, .ireturn, 1)]
theorem ok_cfal : TabOk mt_cfal.2.1 tb_cfal := by
  intro x hx
  have q : tb_cfal.all (fun x => decide (decode jdk_52_method_15_code x.1 = .ok x.2)) = true := by decide +kernel
  exact of_decide_eq_true (List.all_eq_true.mp q x hx)
theorem pl_cfal : plainFor mt_cfal.1 = true := by first | decide +kernel | exact plainFor_of_name (by first | (simp [plainName, overriddenIn]; done) | decide +kernel)
theorem pd_cfal : parseMethodDescriptor "([BI)B" = some ⟨[(.array .byte), .int], some .byte⟩ := by decide +kernel

set_option maxRecDepth 65536 in
set_option maxHeartbeats 4000000 in
theorem ct_cfal {l : Launch} {Z : State} {a0 : Array Value} (G : Gd Z a0) {d : Addr} {vs : List Value} (h : Heap) (B : Ar Z h d .byte vs) :
    Ct l Z EL1 mt_cfal ({ frames := 0, cells := 0, slots := 0, locals := 0 } : Room) #[(.ref d), (.int (Int32.ofNat vs.length))] h [] (fun v h' => v = some (.int 0) ∧ h = h') := by
  refine Ct.of_wp pl_cfal G.2.1 (Ls := #[.val (.ref d), .val (.int (Int32.ofNat vs.length))]) rfl ?_
  refine Wp.run ok_cfal 2 2 #[.val (.ref d), .val (.int (Int32.ofNat vs.length))] [(.ref d), (.int (Int32.ofNat vs.length))] rfl ?_
  refine Wp.alen ok_cfal B rfl rfl ?_
  refine Wp.run ok_cfal 4 8 #[.val (.ref d), .val (.int (Int32.ofNat vs.length))] [(.int (lo8 (ush ((Int32.ofNat vs.length) - (Int32.ofNat vs.length)) (31 : Int32))))] rfl ?_
  have q : lo8 (ush (Int32.ofNat vs.length - Int32.ofNat vs.length) 31) = 0 := by rw [Int32.sub_self]; decide
  refine Wp.at #[.val (.ref d), .val (.int (Int32.ofNat vs.length))] [(.int 0)] ⟨rfl, (by rw [show lo8 (ush (Int32.ofNat vs.length - Int32.ofNat vs.length) (31 : Int32)) = 0 from q] <;> rfl)⟩ ?_
  exact Wp.retI ok_cfal (t := .byte) rfl (by decide) rfl rfl rfl ⟨rfl, rfl⟩

abbrev mt_si4 : Mth := (⟨"java/lang/String", "<init>", "([CIILjava/lang/Void;)V"⟩, jdk_42_method_149_code, 6, none)
def tb_si4 : Tab := [(0, .aload_n 0, 1), (1, .invokespecial 1, 3), (4, .iload_n 3, 1), (5, .ifCond .ne 22, 3), (8, .aload_n 0, 1), (9, .ldc 7, 2), (11, .getfield 9, 3), (14, .putfield 9, 3), (17, .aload_n 0, 1), (18, .ldc 7, 2), (20, .getfield 15, 3), (23, .putfield 15, 3), (26, .return_, 1), (27, .getstatic 38, 3), (30, .ifCond .eq 28, 3), (33, .aload_n 1, 1), (34, .iload_n 2, 1), (35, .iload_n 3, 1), (36, .invokestatic 177, 3), (39, .astore 5, 2), (41, .aload_n 0, 1), (42, .aload 5, 2), (44, .iload_n 3, 1), (45, .invokestatic 47, 3), (48, .putfield 15, 3), (51, .aload_n 0, 1), (52, .aload 5, 2), (54, .putfield 9, 3), (57, .return_, 1), (58, .aload_n 0, 1), (59, .iconst 1, 1), (60, .putfield 15, 3), (63, .aload_n 0, 1), (64, .aload_n 1, 1), (65, .iload_n 2, 1), (66, .iload_n 3, 1), (67, .invokestatic 180, 3), (70, .putfield 9, 3), (73, .return_, 1)]
theorem ok_si4 : TabOk mt_si4.2.1 tb_si4 := by
  intro x hx
  have q : tb_si4.all (fun x => decide (decode jdk_42_method_149_code x.1 = .ok x.2)) = true := by decide +kernel
  exact of_decide_eq_true (List.all_eq_true.mp q x hx)
theorem pl_si4 : plainFor mt_si4.1 = true := by first | decide +kernel | exact plainFor_of_name (by first | (simp [plainName, overriddenIn]; done) | decide +kernel)
theorem pd_si4 : parseMethodDescriptor "([CIILjava/lang/Void;)V" = some ⟨[(.array .char), .int, .int, (.object "java/lang/Void")], none⟩ := by decide +kernel

set_option maxRecDepth 65536 in
set_option maxHeartbeats 4000000 in
theorem ct_si4 {l : Launch} {Z : State} {a0 : Array Value} (G : Gd Z a0) {a b : Addr} {cs : List Int32} (hlat : Lat cs) (hcap : cs.length ≤ 16) (h : Heap) (X0 : Exa Z h a "java/lang/String") (F1 : Fld Z h a "java/lang/String" "coder" "B" (.int 0)) {v0 : Value} (F2 : Fld Z h a "java/lang/String" "value" "[B" v0) (A : Ar Z h b .char (cs.map .int)) :
    Ct l Z EL1 mt_si4 ({ frames := 2, cells := 4, slots := 16, locals := 35 } : Room) #[(.ref a), (.ref b), (.int 0), (.int (Int32.ofNat cs.length)), .null] h [a] (fun v h' => v = none ∧ Keep h h' [a] ∧ Str Z h' a cs) := by
  refine Ct.of_wp pl_si4 G.2.1 (Ls := #[.val (.ref a), .val (.ref b), .val (.int 0), .val (.int (Int32.ofNat cs.length)), .val .null, .unset]) rfl ?_
  refine Wp.run ok_si4 1 1 #[.val (.ref a), .val (.ref b), .val (.int 0), .val (.int (Int32.ofNat cs.length)), .val .null, .unset] [(.ref a)] rfl ?_
  refine Wp.initO ok_si4 (G.1 _ (List.mem_of_getElem? (i := 20) rfl)) (G.1 _ (List.mem_of_getElem? (i := 21) rfl)) (G.1 _ (List.mem_of_getElem? (i := 22) rfl)) rfl rfl rfl (Nat.le_of_ble_eq_true rfl) (Nat.le_of_ble_eq_true rfl) ?_
  refine Wp.run ok_si4 1 5 #[.val (.ref a), .val (.ref b), .val (.int 0), .val (.int (Int32.ofNat cs.length)), .val .null, .unset] [(.int (Int32.ofNat cs.length))] rfl ?_
  refine Wp.if0 ok_si4 27 rfl rfl (by decide) (by decide) (fun hc => ?_) (fun hc => ?_)
  · replace hc : ¬ (Int32.ofNat cs.length) = (0 : Int32) := hc
    obtain ⟨vC, fC, nC⟩ := G.2.2.1
    refine Wp.getS ok_si4 fC (G.1 _ (List.mem_of_getElem? (i := 23) rfl)) Via.refl rfl ?_
    refine Wp.ifF ok_si4 rfl rfl (show ¬ vC = (0 : Int32) from nC) ?_
    refine Wp.run ok_si4 3 36 #[.val (.ref a), .val (.ref b), .val (.int 0), .val (.int (Int32.ofNat cs.length)), .val .null, .unset] [(.int (Int32.ofNat cs.length)), (.int 0), (.ref b)] rfl ?_
    refine Wp.callS ok_si4 (argsL := [(.ref b), (.int 0), (.int (Int32.ofNat cs.length))]) (rest := []) (ct_cmp3 G hlat hcap h A) G.2.1 (G.1 _ (List.mem_of_getElem? (i := 24) rfl)) (G.1 _ (List.mem_of_getElem? (i := 25) rfl)) (G.1 _ (List.mem_of_getElem? (i := 26) rfl)) (G.1 _ (List.mem_of_getElem? (i := 27) rfl)) rfl rfl (by decide) pd_cmp3 rfl rfl (Nat.le_of_ble_eq_true rfl) (Nat.le_of_ble_eq_true rfl) (Nat.le_of_ble_eq_true rfl) (Nat.le_of_ble_eq_true rfl) all0 ?_
    rintro _ h1 ⟨d, rfl, E1, B1, hd⟩ -
    refine Wp.run ok_si4 4 45 #[.val (.ref a), .val (.ref b), .val (.int 0), .val (.int (Int32.ofNat cs.length)), .val .null, .val (.ref d)] [(.int (Int32.ofNat cs.length)), (.ref d), (.ref a)] rfl ?_
    have e0 : Int32.ofNat cs.length = Int32.ofNat (byt cs).length := by simp
    refine Wp.at #[.val (.ref a), .val (.ref b), .val (.int 0), .val (.int (Int32.ofNat cs.length)), .val .null, .val (.ref d)] [(.int (Int32.ofNat (byt cs).length)), (.ref d), (.ref a)] ⟨rfl, (by rw [← e0] <;> rfl)⟩ ?_
    refine Wp.callS ok_si4 (argsL := [(.ref d), (.int (Int32.ofNat (byt cs).length))]) (rest := [(.ref a)]) (ct_cfal G h1 B1) G.2.1 (G.1 _ (List.mem_of_getElem? (i := 32) rfl)) (G.1 _ (List.mem_of_getElem? (i := 33) rfl)) (G.1 _ (List.mem_of_getElem? (i := 26) rfl)) (G.1 _ (List.mem_of_getElem? (i := 34) rfl)) rfl rfl (by decide) pd_cfal rfl rfl (Nat.le_of_ble_eq_true rfl) (Nat.le_of_ble_eq_true rfl) (Nat.le_of_ble_eq_true rfl) (Nat.le_of_ble_eq_true rfl) all0 ?_
    rintro _ _ ⟨rfl, rfl⟩ -
    refine Wp.putF ok_si4 (ty := .byte) (F1.ext E1) (X0.ext E1) (List.mem_of_getElem? (i := 0) rfl) (G.1 _ (List.mem_of_getElem? (i := 35) rfl)) Via.refl (Or.inr ⟨(G.1 _ (List.mem_of_getElem? (i := 36) rfl)), rfl, rfl⟩) (G.1 _ (List.mem_of_getElem? (i := 10) rfl)) (by decide) rfl rfl rfl ?_
    intro h2 w2
    refine Wp.run ok_si4 2 54 #[.val (.ref a), .val (.ref b), .val (.int 0), .val (.int (Int32.ofNat cs.length)), .val .null, .val (.ref d)] [(.ref d), (.ref a)] rfl ?_
    refine Wp.putF ok_si4 (ty := (.array .byte)) ((F2.ext E1).other w2 (Or.inr (slot_ne (Or.inr (G.1 _ (List.mem_of_getElem? (i := 38) rfl))) (Or.inr (G.1 _ (List.mem_of_getElem? (i := 36) rfl))) (by decide) (t := (.array .byte)) (t' := .byte) (by decide) (by decide)))) ((X0.ext E1).wr w2) (List.mem_of_getElem? (i := 0) rfl) (G.1 _ (List.mem_of_getElem? (i := 37) rfl)) Via.refl (Or.inr ⟨(G.1 _ (List.mem_of_getElem? (i := 38) rfl)), rfl, rfl⟩) (G.1 _ (List.mem_of_getElem? (i := 10) rfl)) (by decide) rfl rfl rfl ?_
    intro h3 w3
    have hda : d ≠ a := fun q => by subst q; exact absurd X0.lt (Nat.not_lt.mpr hd)
    exact Wp.ret0 ok_si4 rfl rfl rfl ⟨rfl, (((Keep.refl h [a]).ext E1).trans (wr_keep w2) (fun x hx => Or.inl hx)).trans (wr_keep w3) (fun x hx => Or.inl hx), hlat, ((X0.ext E1).wr w2).wr w3, ((F1.ext E1).same w2).other w3 (Or.inr (slot_ne (Or.inr (G.1 _ (List.mem_of_getElem? (i := 36) rfl))) (Or.inr (G.1 _ (List.mem_of_getElem? (i := 38) rfl))) (by decide) (t := .byte) (t' := (.array .byte)) (by decide) (by decide))), d, ((F2.ext E1).other w2 (Or.inr (slot_ne (Or.inr (G.1 _ (List.mem_of_getElem? (i := 38) rfl))) (Or.inr (G.1 _ (List.mem_of_getElem? (i := 36) rfl))) (by decide) (t := (.array .byte)) (t' := .byte) (by decide) (by decide)))).same w3, (B1.other w2 hda).other w3 hda⟩
  · replace hc : (Int32.ofNat cs.length) = (0 : Int32) := hc
    obtain rfl : cs = [] := List.length_eq_zero_iff.mp ((n_eq (by omega) (by decide)).mp hc)
    refine Wp.run ok_si4 1 9 #[.val (.ref a), .val (.ref b), .val (.int 0), .val (.int (Int32.ofNat ([] : List Int32).length)), .val .null, .unset] [(.ref a)] rfl ?_
    refine Wp.ldcStr ok_si4 (nn := 0) [] (G.1 _ (List.mem_of_getElem? (i := 39) rfl)) (wS G) G.2.1 (by decide) (by decide +kernel) (latD (by decide)) (by decide) rfl (by decide) (by decide) (Nat.le_of_ble_eq_true rfl) (Nat.le_of_ble_eq_true rfl) ?_
    intro e1 h1 E1 S1 N1
    obtain ⟨b1, V1, A1⟩ := S1.val
    refine Wp.getF ok_si4 V1 (G.1 _ (List.mem_of_getElem? (i := 37) rfl)) Via.refl rfl rfl ?_
    refine Wp.putF ok_si4 (ty := (.array .byte)) (F2.ext E1) (X0.ext E1) (List.mem_of_getElem? (i := 0) rfl) (G.1 _ (List.mem_of_getElem? (i := 37) rfl)) Via.refl (Or.inr ⟨(G.1 _ (List.mem_of_getElem? (i := 38) rfl)), rfl, rfl⟩) (G.1 _ (List.mem_of_getElem? (i := 10) rfl)) (by decide) rfl rfl rfl ?_
    intro h2 w2
    refine Wp.run ok_si4 1 18 #[.val (.ref a), .val (.ref b), .val (.int 0), .val (.int (Int32.ofNat ([] : List Int32).length)), .val .null, .unset] [(.ref a)] rfl ?_
    refine Wp.ldcStr ok_si4 (nn := 0) [] (G.1 _ (List.mem_of_getElem? (i := 39) rfl)) (wS G) G.2.1 (by decide) (by decide +kernel) (latD (by decide)) (by decide) rfl (by decide) (by decide) (Nat.le_of_ble_eq_true rfl) (Nat.le_of_ble_eq_true rfl) ?_
    intro e2 h3 E3 S3 N3
    refine Wp.getF ok_si4 S3.cod (G.1 _ (List.mem_of_getElem? (i := 35) rfl)) Via.refl rfl rfl ?_
    refine Wp.putF ok_si4 (ty := .byte) (((F1.ext E1).other w2 (Or.inr (slot_ne (Or.inr (G.1 _ (List.mem_of_getElem? (i := 36) rfl))) (Or.inr (G.1 _ (List.mem_of_getElem? (i := 38) rfl))) (by decide) (t := .byte) (t' := (.array .byte)) (by decide) (by decide)))).ext E3) (((X0.ext E1).wr w2).ext E3) (List.mem_of_getElem? (i := 0) rfl) (G.1 _ (List.mem_of_getElem? (i := 35) rfl)) Via.refl (Or.inr ⟨(G.1 _ (List.mem_of_getElem? (i := 36) rfl)), rfl, rfl⟩) (G.1 _ (List.mem_of_getElem? (i := 10) rfl)) (by decide) rfl rfl rfl ?_
    intro h4 w4
    have hba : b1 ≠ a := fun q => N1 a (List.mem_of_getElem? (i := 0) rfl) (Or.inr (q ▸ V1))
    exact Wp.ret0 ok_si4 rfl rfl rfl ⟨rfl, (((((Keep.refl h [a]).ext E1).trans (wr_keep w2) (fun x hx => Or.inl hx)).ext E3).trans (wr_keep w4) (fun x hx => Or.inl hx)), hlat, ((((X0.ext E1).wr w2).ext E3).wr w4), ((((F1.ext E1).other w2 (Or.inr (slot_ne (Or.inr (G.1 _ (List.mem_of_getElem? (i := 36) rfl))) (Or.inr (G.1 _ (List.mem_of_getElem? (i := 38) rfl))) (by decide) (t := .byte) (t' := (.array .byte)) (by decide) (by decide)))).ext E3).same w4), b1, ((((F2.ext E1).same w2).ext E3).other w4 (Or.inr (slot_ne (Or.inr (G.1 _ (List.mem_of_getElem? (i := 38) rfl))) (Or.inr (G.1 _ (List.mem_of_getElem? (i := 36) rfl))) (by decide) (t := (.array .byte)) (t' := .byte) (by decide) (by decide)))), (((A1.other w2 hba).ext E3).other w4 hba)⟩

abbrev mt_si1 : Mth := (⟨"java/lang/String", "<init>", "([C)V"⟩, jdk_42_method_3_code, 2, none)
def tb_si1 : Tab := [(0, .aload_n 0, 1), (1, .aload_n 1, 1), (2, .iconst 0, 1), (3, .aload_n 1, 1), (4, .arraylength, 1), (5, .aconst_null, 1), (6, .invokespecial 27, 3), (9, .return_, 1)]
theorem ok_si1 : TabOk mt_si1.2.1 tb_si1 := by
  intro x hx
  have q : tb_si1.all (fun x => decide (decode jdk_42_method_3_code x.1 = .ok x.2)) = true := by decide +kernel
  exact of_decide_eq_true (List.all_eq_true.mp q x hx)
theorem pl_si1 : plainFor mt_si1.1 = true := by first | decide +kernel | exact plainFor_of_name (by first | (simp [plainName, overriddenIn]; done) | decide +kernel)
theorem pd_si1 : parseMethodDescriptor "([C)V" = some ⟨[(.array .char)], none⟩ := by decide +kernel

set_option maxRecDepth 65536 in
set_option maxHeartbeats 4000000 in
theorem ct_si1 {l : Launch} {Z : State} {a0 : Array Value} (G : Gd Z a0) {a b : Addr} {cs : List Int32} (hlat : Lat cs) (hcap : cs.length ≤ 16) (h : Heap) (X0 : Exa Z h a "java/lang/String") (F1 : Fld Z h a "java/lang/String" "coder" "B" (.int 0)) {v0 : Value} (F2 : Fld Z h a "java/lang/String" "value" "[B" v0) (A : Ar Z h b .char (cs.map .int)) :
    Ct l Z EL1 mt_si1 ({ frames := 3, cells := 4, slots := 16, locals := 52 } : Room) #[(.ref a), (.ref b)] h [a] (fun v h' => v = none ∧ Keep h h' [a] ∧ Str Z h' a cs) := by
  refine Ct.of_wp pl_si1 G.2.1 (Ls := #[.val (.ref a), .val (.ref b)]) rfl ?_
  refine Wp.run ok_si1 4 4 #[.val (.ref a), .val (.ref b)] [(.ref b), (.int (0 : Int32)), (.ref b), (.ref a)] rfl ?_
  refine Wp.alen ok_si1 A rfl rfl ?_
  refine Wp.at #[.val (.ref a), .val (.ref b)] [(.int (Int32.ofNat cs.length)), (.int (0 : Int32)), (.ref b), (.ref a)] ⟨rfl, by simp only [List.length_map]⟩ ?_
  refine Wp.run ok_si1 1 6 #[.val (.ref a), .val (.ref b)] [.null, (.int (Int32.ofNat cs.length)), (.int (0 : Int32)), (.ref b), (.ref a)] rfl ?_
  refine Wp.callI ok_si1 (a := a) (argsL := [(.ref b), (.int (0 : Int32)), (.int (Int32.ofNat cs.length)), .null]) (rest := []) (ct_si4 G hlat hcap h X0 F1 F2 A) G.2.1 (G.1 _ (List.mem_of_getElem? (i := 16) rfl)) (G.1 _ (List.mem_of_getElem? (i := 17) rfl)) (G.1 _ (List.mem_of_getElem? (i := 11) rfl)) (G.1 _ (List.mem_of_getElem? (i := 19) rfl)) rfl rfl rfl rfl (by decide) pd_si4 rfl rfl (Nat.le_of_ble_eq_true rfl) (Nat.le_of_ble_eq_true rfl) (Nat.le_of_ble_eq_true rfl) (Nat.le_of_ble_eq_true rfl) (allS (List.mem_of_getElem? (i := 0) rfl) all0) ?_
  rintro _ h1 ⟨rfl, K1, S1⟩ -
  exact Wp.ret0 ok_si1 rfl rfl rfl ⟨rfl, K1, S1⟩

abbrev mt_emp : Mth := (⟨"java/lang/String", "isEmpty", "()Z"⟩, jdk_42_method_55_code, 1, some .boolean)
def tb_emp : Tab := [(0, .aload_n 0, 1), (1, .getfield 9, 3), (4, .arraylength, 1), (5, .ifCond .ne 7, 3), (8, .iconst 1, 1), (9, .goto 4, 3), (12, .iconst 0, 1), (13, .ireturn, 1)]
theorem ok_emp : TabOk mt_emp.2.1 tb_emp := by
  intro x hx
  have q : tb_emp.all (fun x => decide (decode jdk_42_method_55_code x.1 = .ok x.2)) = true := by decide +kernel
  exact of_decide_eq_true (List.all_eq_true.mp q x hx)
theorem pl_emp : plainFor mt_emp.1 = true := by first | decide +kernel | exact plainFor_of_name (by first | (simp [plainName, overriddenIn]; done) | decide +kernel)
theorem pd_emp : parseMethodDescriptor "()Z" = some ⟨[], some .boolean⟩ := by decide +kernel

set_option maxRecDepth 65536 in
set_option maxHeartbeats 4000000 in
theorem ct_emp {l : Launch} {Z : State} {a0 : Array Value} (G : Gd Z a0) {a : Addr} {cs : List Int32} (h : Heap) (S1 : Str Z h a cs) :
    Ct l Z EL1 mt_emp ({ frames := 0, cells := 0, slots := 0, locals := 0 } : Room) #[(.ref a)] h [] (fun v h' => v = some (.int (if cs = [] then 1 else 0)) ∧ h = h') := by
  refine Ct.of_wp pl_emp G.2.1 (Ls := #[.val (.ref a)]) rfl ?_
  obtain ⟨b, V, A⟩ := S1.val
  refine Wp.run ok_emp 1 1 #[.val (.ref a)] [(.ref a)] rfl ?_
  refine Wp.getF ok_emp V (G.1 _ (List.mem_of_getElem? (i := 37) rfl)) Via.refl rfl rfl ?_
  refine Wp.alen ok_emp A rfl rfl ?_
  refine Wp.at #[.val (.ref a)] [(.int (Int32.ofNat cs.length))] ⟨rfl, by simp only [List.length_map]⟩ ?_
  refine Wp.if0 ok_emp 12 rfl rfl (by decide) (by decide) (fun hc => ?_) (fun hc => ?_)
  · replace hc : ¬ (Int32.ofNat cs.length) = (0 : Int32) := hc
    refine Wp.run ok_emp 1 13 #[.val (.ref a)] [(.int (0 : Int32))] rfl ?_
    exact Wp.retI ok_emp (t := .boolean) rfl (by decide) rfl rfl rfl ⟨by rw [if_neg (fun e => hc (by rw [e]; rfl))], rfl⟩
  · replace hc : (Int32.ofNat cs.length) = (0 : Int32) := hc
    refine Wp.run ok_emp 2 13 #[.val (.ref a)] [(.int (1 : Int32))] rfl ?_
    exact Wp.retI ok_emp (t := .boolean) rfl (by decide) rfl rfl rfl ⟨by rw [if_pos (List.length_eq_zero_iff.mp ((n_eq S1.len (by decide)).mp hc))], rfl⟩

abbrev mt_cod : Mth := (⟨"java/lang/String", "coder", "()B"⟩, jdk_42_method_152_code, 1, some .byte)
def tb_cod : Tab := [(0, .getstatic 38, 3), (3, .ifCond .eq 10, 3), (6, .aload_n 0, 1), (7, .getfield 15, 3), (10, .goto 4, 3), (13, .iconst 1, 1), (14, .ireturn, 1)]
theorem ok_cod : TabOk mt_cod.2.1 tb_cod := by
  intro x hx
  have q : tb_cod.all (fun x => decide (decode jdk_42_method_152_code x.1 = .ok x.2)) = true := by decide +kernel
  exact of_decide_eq_true (List.all_eq_true.mp q x hx)
theorem pl_cod : plainFor mt_cod.1 = true := by first | decide +kernel | exact plainFor_of_name (by first | (simp [plainName, overriddenIn]; done) | decide +kernel)
theorem pd_cod : parseMethodDescriptor "()B" = some ⟨[], some .byte⟩ := by decide +kernel

set_option maxRecDepth 65536 in
set_option maxHeartbeats 4000000 in
theorem ct_cod {l : Launch} {Z : State} {a0 : Array Value} (G : Gd Z a0) {a : Addr} {x : Int32} (hx : fits .byte (.int x) = true) (h : Heap) (F : Fld Z h a "java/lang/String" "coder" "B" (.int x)) :
    Ct l Z EL1 mt_cod ({ frames := 0, cells := 0, slots := 0, locals := 0 } : Room) #[(.ref a)] h [] (fun v h' => v = some (.int x) ∧ h = h') := by
  refine Ct.of_wp pl_cod G.2.1 (Ls := #[.val (.ref a)]) rfl ?_
  obtain ⟨vC, fC, nC⟩ := G.2.2.1
  refine Wp.getS ok_cod fC (G.1 _ (List.mem_of_getElem? (i := 23) rfl)) Via.refl rfl ?_
  refine Wp.ifF ok_cod rfl rfl (show ¬ vC = (0 : Int32) from nC) ?_
  refine Wp.run ok_cod 1 7 #[.val (.ref a)] [(.ref a)] rfl ?_
  refine Wp.getF ok_cod F (G.1 _ (List.mem_of_getElem? (i := 35) rfl)) Via.refl rfl rfl ?_
  refine Wp.run ok_cod 1 14 #[.val (.ref a)] [(.int x)] rfl ?_
  exact Wp.retI ok_cod (t := .byte) rfl (by decide) rfl rfl hx ⟨rfl, rfl⟩

abbrev mt_len : Mth := (⟨"java/lang/String", "length", "()I"⟩, jdk_42_method_54_code, 1, some .int)
def tb_len : Tab := [(0, .aload_n 0, 1), (1, .getfield 9, 3), (4, .arraylength, 1), (5, .aload_n 0, 1), (6, .invokevirtual 335, 3), (9, .ishr, 1), (10, .ireturn, 1)]
theorem ok_len : TabOk mt_len.2.1 tb_len := by
  intro x hx
  have q : tb_len.all (fun x => decide (decode jdk_42_method_54_code x.1 = .ok x.2)) = true := by decide +kernel
  exact of_decide_eq_true (List.all_eq_true.mp q x hx)
theorem pl_len : plainFor mt_len.1 = true := by first | decide +kernel | exact plainFor_of_name (by first | (simp [plainName, overriddenIn]; done) | decide +kernel)
theorem pd_len : parseMethodDescriptor "()I" = some ⟨[], some .int⟩ := by decide +kernel

set_option maxRecDepth 65536 in
set_option maxHeartbeats 4000000 in
theorem ct_len {l : Launch} {Z : State} {a0 : Array Value} (G : Gd Z a0) {a : Addr} {cs : List Int32} (h : Heap) (S1 : Str Z h a cs) :
    Ct l Z EL1 mt_len ({ frames := 1, cells := 0, slots := 0, locals := 13 } : Room) #[(.ref a)] h [] (fun v h' => v = some (.int (Int32.ofNat cs.length)) ∧ h = h') := by
  refine Ct.of_wp pl_len G.2.1 (Ls := #[.val (.ref a)]) rfl ?_
  obtain ⟨b, V, A⟩ := S1.val
  refine Wp.run ok_len 1 1 #[.val (.ref a)] [(.ref a)] rfl ?_
  refine Wp.getF ok_len V (G.1 _ (List.mem_of_getElem? (i := 37) rfl)) Via.refl rfl rfl ?_
  refine Wp.alen ok_len A rfl rfl ?_
  refine Wp.run ok_len 1 6 #[.val (.ref a)] [(.ref a), (.int (Int32.ofNat ((byt cs).length)))] rfl ?_
  refine Wp.callV ok_len (a := a) (argsL := []) (rest := [(.int (Int32.ofNat ((byt cs).length)))]) (ct_cod G (x := 0) rfl h S1.cod) S1.exa G.2.1 (G.1 _ (List.mem_of_getElem? (i := 72) rfl)) (G.1 _ (List.mem_of_getElem? (i := 73) rfl)) (G.1 _ (List.mem_of_getElem? (i := 75) rfl)) (G.1 _ (List.mem_of_getElem? (i := 74) rfl)) (G.1 _ (List.mem_of_getElem? (i := 11) rfl)) (G.1 _ (List.mem_of_getElem? (i := 76) rfl)) rfl rfl (by decide) pd_cod rfl rfl (Nat.le_of_ble_eq_true rfl) (Nat.le_of_ble_eq_true rfl) (Nat.le_of_ble_eq_true rfl) (Nat.le_of_ble_eq_true rfl) all0 ?_
  rintro _ _ ⟨rfl, rfl⟩ -
  refine Wp.run ok_len 1 10 #[.val (.ref a)] [(.int ((Int32.ofNat ((byt cs).length)) >>> (0 &&& 31)))] rfl ?_
  refine Wp.at #[.val (.ref a)] [(.int (Int32.ofNat cs.length))] ⟨rfl, by simp [shr0]⟩ ?_
  exact Wp.retI ok_len (t := .int) rfl (by decide) rfl rfl rfl ⟨rfl, rfl⟩

abbrev mt_isl : Mth := (⟨"java/lang/String", "isLatin1", "()Z"⟩, jdk_42_method_154_code, 1, some .boolean)
def tb_isl : Tab := [(0, .getstatic 38, 3), (3, .ifCond .eq 14, 3), (6, .aload_n 0, 1), (7, .getfield 15, 3), (10, .ifCond .ne 7, 3), (13, .iconst 1, 1), (14, .goto 4, 3), (17, .iconst 0, 1), (18, .ireturn, 1)]
theorem ok_isl : TabOk mt_isl.2.1 tb_isl := by
  intro x hx
  have q : tb_isl.all (fun x => decide (decode jdk_42_method_154_code x.1 = .ok x.2)) = true := by decide +kernel
  exact of_decide_eq_true (List.all_eq_true.mp q x hx)
theorem pl_isl : plainFor mt_isl.1 = true := by first | decide +kernel | exact plainFor_of_name (by first | (simp [plainName, overriddenIn]; done) | decide +kernel)
theorem pd_isl : parseMethodDescriptor "()Z" = some ⟨[], some .boolean⟩ := by decide +kernel

set_option maxRecDepth 65536 in
set_option maxHeartbeats 4000000 in
theorem ct_isl {l : Launch} {Z : State} {a0 : Array Value} (G : Gd Z a0) {a : Addr} (h : Heap) (F : Fld Z h a "java/lang/String" "coder" "B" (.int 0)) :
    Ct l Z EL1 mt_isl ({ frames := 0, cells := 0, slots := 0, locals := 0 } : Room) #[(.ref a)] h [] (fun v h' => v = some (.int 1) ∧ h = h') := by
  refine Ct.of_wp pl_isl G.2.1 (Ls := #[.val (.ref a)]) rfl ?_
  obtain ⟨vC, fC, nC⟩ := G.2.2.1
  refine Wp.getS ok_isl fC (G.1 _ (List.mem_of_getElem? (i := 23) rfl)) Via.refl rfl ?_
  refine Wp.ifF ok_isl rfl rfl (show ¬ vC = (0 : Int32) from nC) ?_
  refine Wp.run ok_isl 1 7 #[.val (.ref a)] [(.ref a)] rfl ?_
  refine Wp.getF ok_isl F (G.1 _ (List.mem_of_getElem? (i := 35) rfl)) Via.refl rfl rfl ?_
  refine Wp.ifF ok_isl rfl rfl (show 0 = (0 : Int32) from rfl) ?_
  refine Wp.run ok_isl 2 18 #[.val (.ref a)] [(.int (1 : Int32))] rfl ?_
  exact Wp.retI ok_isl (t := .boolean) rfl (by decide) rfl rfl rfl ⟨rfl, rfl⟩

abbrev mt_pci : Mth := (⟨"jdk/internal/util/Preconditions", "checkIndex", "(IILjava/util/function/BiFunction;)I"⟩, jdk_41_method_11_code, 3, some .int)
def tb_pci : Tab := [(0, .iload_n 0, 1), (1, .ifCond .lt 8, 3), (4, .iload_n 0, 1), (5, .iload_n 1, 1), (6, .if_icmp .lt 10, 3), (9, .aload_n 2, 1), (10, .iload_n 0, 1), (11, .iload_n 1, 1), (12, .invokestatic 95, 3), (15, .athrow, 1), (16, .iload_n 0, 1), (17, .ireturn, 1)]
theorem ok_pci : TabOk mt_pci.2.1 tb_pci := by
  intro x hx
  have q : tb_pci.all (fun x => decide (decode jdk_41_method_11_code x.1 = .ok x.2)) = true := by decide +kernel
  exact of_decide_eq_true (List.all_eq_true.mp q x hx)
theorem pl_pci : plainFor mt_pci.1 = true := by first | decide +kernel | exact plainFor_of_name (by first | (simp [plainName, overriddenIn]; done) | decide +kernel)
theorem pd_pci : parseMethodDescriptor "(IILjava/util/function/BiFunction;)I" = some ⟨[.int, .int, (.object "java/util/function/BiFunction")], some .int⟩ := by decide +kernel

set_option maxRecDepth 65536 in
set_option maxHeartbeats 4000000 in
theorem ct_pci {l : Launch} {Z : State} {a0 : Array Value} (G : Gd Z a0) {i m : Nat} (hi : i < m) (h31 : m < 2 ^ 31) {f : Value} (hf : f.isRef = true) (h : Heap) :
    Ct l Z EL1 mt_pci ({ frames := 0, cells := 0, slots := 0, locals := 0 } : Room) #[.int (Int32.ofNat i), .int (Int32.ofNat m), f] h [] (fun v h' => v = some (.int (Int32.ofNat i)) ∧ h = h') := by
  rcases ref_cases hf with rfl | ⟨f, rfl⟩
  · refine Ct.of_wp pl_pci G.2.1 (Ls := #[.val (.int (Int32.ofNat i)), .val (.int (Int32.ofNat m)), .val .null]) rfl ?_
    refine Wp.run ok_pci 1 1 #[.val (.int (Int32.ofNat i)), .val (.int (Int32.ofNat m)), .val .null] [(.int (Int32.ofNat i))] rfl ?_
    refine Wp.ifF ok_pci rfl rfl (show ¬ (Int32.ofNat i) < (0 : Int32) from Int32.ofNat_not_neg (by omega)) ?_
    refine Wp.run ok_pci 2 6 #[.val (.int (Int32.ofNat i)), .val (.int (Int32.ofNat m)), .val .null] [(.int (Int32.ofNat m)), (.int (Int32.ofNat i))] rfl ?_
    refine Wp.icmpT ok_pci 16 rfl rfl (show (Int32.ofNat i) < (Int32.ofNat m) from (n_lt (by omega) h31).mpr hi) (by decide) (by decide) ?_
    refine Wp.run ok_pci 1 17 #[.val (.int (Int32.ofNat i)), .val (.int (Int32.ofNat m)), .val .null] [(.int (Int32.ofNat i))] rfl ?_
    exact Wp.retI ok_pci (t := .int) rfl (by decide) rfl rfl rfl ⟨rfl, rfl⟩
  · refine Ct.of_wp pl_pci G.2.1 (Ls := #[.val (.int (Int32.ofNat i)), .val (.int (Int32.ofNat m)), .val (.ref f)]) rfl ?_
    refine Wp.run ok_pci 1 1 #[.val (.int (Int32.ofNat i)), .val (.int (Int32.ofNat m)), .val (.ref f)] [(.int (Int32.ofNat i))] rfl ?_
    refine Wp.ifF ok_pci rfl rfl (show ¬ (Int32.ofNat i) < (0 : Int32) from Int32.ofNat_not_neg (by omega)) ?_
    refine Wp.run ok_pci 2 6 #[.val (.int (Int32.ofNat i)), .val (.int (Int32.ofNat m)), .val (.ref f)] [(.int (Int32.ofNat m)), (.int (Int32.ofNat i))] rfl ?_
    refine Wp.icmpT ok_pci 16 rfl rfl (show (Int32.ofNat i) < (Int32.ofNat m) from (n_lt (by omega) h31).mpr hi) (by decide) (by decide) ?_
    refine Wp.run ok_pci 1 17 #[.val (.int (Int32.ofNat i)), .val (.int (Int32.ofNat m)), .val (.ref f)] [(.int (Int32.ofNat i))] rfl ?_
    exact Wp.retI ok_pci (t := .int) rfl (by decide) rfl rfl rfl ⟨rfl, rfl⟩

abbrev mt_sci : Mth := (⟨"java/lang/String", "checkIndex", "(II)V"⟩, jdk_42_method_155_code, 2, none)
def tb_sci : Tab := [(0, .iload_n 0, 1), (1, .iload_n 1, 1), (2, .getstatic 1053, 3), (5, .invokestatic 1059, 3), (8, .pop, 1), (9, .return_, 1)]
theorem ok_sci : TabOk mt_sci.2.1 tb_sci := by
  intro x hx
  have q : tb_sci.all (fun x => decide (decode jdk_42_method_155_code x.1 = .ok x.2)) = true := by decide +kernel
  exact of_decide_eq_true (List.all_eq_true.mp q x hx)
theorem pl_sci : plainFor mt_sci.1 = true := by first | decide +kernel | exact plainFor_of_name (by first | (simp [plainName, overriddenIn]; done) | decide +kernel)
theorem pd_sci : parseMethodDescriptor "(II)V" = some ⟨[.int, .int], none⟩ := by decide +kernel

set_option maxRecDepth 65536 in
set_option maxHeartbeats 4000000 in
theorem ct_sci {l : Launch} {Z : State} {a0 : Array Value} (G : Gd Z a0) {i m : Nat} (hi : i < m) (h31 : m < 2 ^ 31) (h : Heap)  :
    Ct l Z EL1 mt_sci ({ frames := 1, cells := 0, slots := 0, locals := 14 } : Room) #[(.int (Int32.ofNat i)), (.int (Int32.ofNat m))] h [] (fun v h' => v = none ∧ h = h') := by
  refine Ct.of_wp pl_sci G.2.1 (Ls := #[.val (.int (Int32.ofNat i)), .val (.int (Int32.ofNat m))]) rfl ?_
  obtain ⟨vF, fF, rF⟩ := G.2.2.2.1
  refine Wp.run ok_sci 2 2 #[.val (.int (Int32.ofNat i)), .val (.int (Int32.ofNat m))] [(.int (Int32.ofNat m)), (.int (Int32.ofNat i))] rfl ?_
  refine Wp.getS ok_sci fF (G.1 _ (List.mem_of_getElem? (i := 218) rfl)) Via.refl rfl ?_
  refine Wp.callS ok_sci (argsL := [(.int (Int32.ofNat i)), (.int (Int32.ofNat m)), vF]) (rest := []) (ct_pci G hi h31 rF h) G.2.1 (G.1 _ (List.mem_of_getElem? (i := 220) rfl)) (G.1 _ (List.mem_of_getElem? (i := 221) rfl)) (G.1 _ (List.mem_of_getElem? (i := 219) rfl)) (G.1 _ (List.mem_of_getElem? (i := 222) rfl)) rfl rfl (by decide) pd_pci rfl rfl (Nat.le_of_ble_eq_true rfl) (Nat.le_of_ble_eq_true rfl) (Nat.le_of_ble_eq_true rfl) (Nat.le_of_ble_eq_true rfl) all0 ?_
  rintro _ _ ⟨rfl, rfl⟩ -
  refine Wp.run ok_sci 1 9 #[.val (.int (Int32.ofNat i)), .val (.int (Int32.ofNat m))] [] rfl ?_
  exact Wp.ret0 ok_sci rfl rfl rfl ⟨rfl, rfl⟩

abbrev mt_lca : Mth := (⟨"java/lang/StringLatin1", "charAt", "([BI)C"⟩, jdk_43_method_2_code, 2, some .char)
def tb_lca : Tab := [(0, .iload_n 1, 1), (1, .aload_n 0, 1), (2, .arraylength, 1), (3, .invokestatic 9, 3), (6, .aload_n 0, 1), (7, .iload_n 1, 1), (8, .baload, 1), (9, .sipush 255, 3), (12, .iand, 1), (13, .i2c, 1), (14, .ireturn, 1)]
theorem ok_lca : TabOk mt_lca.2.1 tb_lca := by
  intro x hx
  have q : tb_lca.all (fun x => decide (decode jdk_43_method_2_code x.1 = .ok x.2)) = true := by decide +kernel
  exact of_decide_eq_true (List.all_eq_true.mp q x hx)
theorem pl_lca : plainFor mt_lca.1 = true := by first | decide +kernel | exact plainFor_of_name (by first | (simp [plainName, overriddenIn]; done) | decide +kernel)
theorem pd_lca : parseMethodDescriptor "([BI)C" = some ⟨[(.array .byte), .int], some .char⟩ := by decide +kernel

set_option maxRecDepth 65536 in
set_option maxHeartbeats 4000000 in
theorem ct_lca {l : Launch} {Z : State} {a0 : Array Value} (G : Gd Z a0) {b : Addr} {cs : List Int32} {i : Nat} {c : Int32} (hl : Lat cs) (hc : cs[i]? = some c) (h : Heap) (A : Ar Z h b .byte (byt cs)) :
    Ct l Z EL1 mt_lca ({ frames := 2, cells := 0, slots := 0, locals := 27 } : Room) #[(.ref b), (.int (Int32.ofNat i))] h [] (fun v h' => v = some (.int c) ∧ h = h') := by
  refine Ct.of_wp pl_lca G.2.1 (Ls := #[.val (.ref b), .val (.int (Int32.ofNat i))]) rfl ?_
  have hi := (List.getElem?_eq_some_iff.mp hc).1
  have h31 : cs.length < 2 ^ 31 := by simpa using A.len
  refine Wp.run ok_lca 2 2 #[.val (.ref b), .val (.int (Int32.ofNat i))] [(.ref b), (.int (Int32.ofNat i))] rfl ?_
  refine Wp.alen ok_lca A rfl rfl ?_
  refine Wp.at #[.val (.ref b), .val (.int (Int32.ofNat i))] [(.int (Int32.ofNat cs.length)), (.int (Int32.ofNat i))] ⟨rfl, by simp only [List.length_map]⟩ ?_
  refine Wp.callS ok_lca (argsL := [(.int (Int32.ofNat i)), (.int (Int32.ofNat cs.length))]) (rest := []) (ct_sci G hi h31 h) G.2.1 (G.1 _ (List.mem_of_getElem? (i := 215) rfl)) (G.1 _ (List.mem_of_getElem? (i := 216) rfl)) (G.1 _ (List.mem_of_getElem? (i := 11) rfl)) (G.1 _ (List.mem_of_getElem? (i := 217) rfl)) rfl rfl (by decide) pd_sci rfl rfl (Nat.le_of_ble_eq_true rfl) (Nat.le_of_ble_eq_true rfl) (Nat.le_of_ble_eq_true rfl) (Nat.le_of_ble_eq_true rfl) all0 ?_
  rintro _ _ ⟨rfl, rfl⟩ -
  refine Wp.run ok_lca 2 8 #[.val (.ref b), .val (.int (Int32.ofNat i))] [(.int (Int32.ofNat i)), (.ref b)] rfl ?_
  refine Wp.aget ok_lca A (i := i) (v := (.int (lo8 c))) rfl (by simp [hc]) rfl rfl rfl ?_
  refine Wp.run ok_lca 3 14 #[.val (.ref b), .val (.int (Int32.ofNat i))] [(.int (c16 ((lo8 c) &&& (255 : Int32))))] rfl ?_
  refine Wp.at #[.val (.ref b), .val (.int (Int32.ofNat i))] [(.int c)] ⟨rfl, (by rw [show lo8 c &&& (255 : Int32) = c from lo8_and (hl.at hc), c16_lat (hl.at hc)] <;> rfl)⟩ ?_
  exact Wp.retI ok_lca (t := .char) rfl (by decide) rfl rfl (fitc (hl.at hc)) ⟨rfl, rfl⟩

abbrev mt_cha : Mth := (⟨"java/lang/String", "charAt", "(I)C"⟩, jdk_42_method_56_code, 2, some .char)
def tb_cha : Tab := [(0, .aload_n 0, 1), (1, .invokevirtual 492, 3), (4, .ifCond .eq 12, 3), (7, .aload_n 0, 1), (8, .getfield 9, 3), (11, .iload_n 1, 1), (12, .invokestatic 495, 3), (15, .ireturn, 1), (16, .aload_n 0, 1), (17, .getfield 9, 3), (20, .iload_n 1, 1), (21, .invokestatic 498, 3), (24, .ireturn, 1)]
theorem ok_cha : TabOk mt_cha.2.1 tb_cha := by
  intro x hx
  have q : tb_cha.all (fun x => decide (decode jdk_42_method_56_code x.1 = .ok x.2)) = true := by decide +kernel
  exact of_decide_eq_true (List.all_eq_true.mp q x hx)
theorem pl_cha : plainFor mt_cha.1 = true := by first | decide +kernel | exact plainFor_of_name (by first | (simp [plainName, overriddenIn]; done) | decide +kernel)
theorem pd_cha : parseMethodDescriptor "(I)C" = some ⟨[.int], some .char⟩ := by decide +kernel

set_option maxRecDepth 65536 in
set_option maxHeartbeats 4000000 in
theorem ct_cha {l : Launch} {Z : State} {a0 : Array Value} (G : Gd Z a0) {a : Addr} {cs : List Int32} {i : Nat} {c : Int32} (hc : cs[i]? = some c) (h : Heap) (S1 : Str Z h a cs) :
    Ct l Z EL1 mt_cha ({ frames := 3, cells := 0, slots := 0, locals := 40 } : Room) #[(.ref a), (.int (Int32.ofNat i))] h [] (fun v h' => v = some (.int c) ∧ h = h') := by
  refine Ct.of_wp pl_cha G.2.1 (Ls := #[.val (.ref a), .val (.int (Int32.ofNat i))]) rfl ?_
  refine Wp.run ok_cha 1 1 #[.val (.ref a), .val (.int (Int32.ofNat i))] [(.ref a)] rfl ?_
  refine Wp.callV ok_cha (a := a) (argsL := []) (rest := []) (ct_isl G h S1.cod) S1.exa G.2.1 (G.1 _ (List.mem_of_getElem? (i := 62) rfl)) (G.1 _ (List.mem_of_getElem? (i := 63) rfl)) (G.1 _ (List.mem_of_getElem? (i := 65) rfl)) (G.1 _ (List.mem_of_getElem? (i := 64) rfl)) (G.1 _ (List.mem_of_getElem? (i := 11) rfl)) (G.1 _ (List.mem_of_getElem? (i := 66) rfl)) rfl rfl (by decide) pd_isl rfl rfl (Nat.le_of_ble_eq_true rfl) (Nat.le_of_ble_eq_true rfl) (Nat.le_of_ble_eq_true rfl) (Nat.le_of_ble_eq_true rfl) all0 ?_
  rintro _ _ ⟨rfl, rfl⟩ -
  refine Wp.ifF ok_cha rfl rfl (show ¬ 1 = (0 : Int32) from by decide) ?_
  refine Wp.run ok_cha 1 8 #[.val (.ref a), .val (.int (Int32.ofNat i))] [(.ref a)] rfl ?_
  obtain ⟨b, V, A⟩ := S1.val
  refine Wp.getF ok_cha V (G.1 _ (List.mem_of_getElem? (i := 37) rfl)) Via.refl rfl rfl ?_
  refine Wp.run ok_cha 1 12 #[.val (.ref a), .val (.int (Int32.ofNat i))] [(.int (Int32.ofNat i)), (.ref b)] rfl ?_
  refine Wp.callS ok_cha (argsL := [(.ref b), (.int (Int32.ofNat i))]) (rest := []) (ct_lca G S1.lat hc h A) G.2.1 (G.1 _ (List.mem_of_getElem? (i := 212) rfl)) (G.1 _ (List.mem_of_getElem? (i := 213) rfl)) (G.1 _ (List.mem_of_getElem? (i := 79) rfl)) (G.1 _ (List.mem_of_getElem? (i := 214) rfl)) rfl rfl (by decide) pd_lca rfl rfl (Nat.le_of_ble_eq_true rfl) (Nat.le_of_ble_eq_true rfl) (Nat.le_of_ble_eq_true rfl) (Nat.le_of_ble_eq_true rfl) all0 ?_
  rintro _ _ ⟨rfl, rfl⟩ -
  exact Wp.retI ok_cha (t := .char) rfl (by decide) rfl rfl (fitc (S1.lat.at hc)) ⟨rfl, rfl⟩

abbrev mt_pcf : Mth := (⟨"jdk/internal/util/Preconditions", "checkFromToIndex", "(IIILjava/util/function/BiFunction;)I"⟩, jdk_41_method_12_code, 4, some .int)
def tb_pcf : Tab := [(0, .iload_n 0, 1), (1, .ifCond .lt 13, 3), (4, .iload_n 0, 1), (5, .iload_n 1, 1), (6, .if_icmp .gt 8, 3), (9, .iload_n 1, 1), (10, .iload_n 2, 1), (11, .if_icmp .le 11, 3), (14, .aload_n 3, 1), (15, .iload_n 0, 1), (16, .iload_n 1, 1), (17, .iload_n 2, 1), (18, .invokestatic 99, 3), (21, .athrow, 1), (22, .iload_n 0, 1), (23, .ireturn, 1)]
theorem ok_pcf : TabOk mt_pcf.2.1 tb_pcf := by
  intro x hx
  have q : tb_pcf.all (fun x => decide (decode jdk_41_method_12_code x.1 = .ok x.2)) = true := by decide +kernel
  exact of_decide_eq_true (List.all_eq_true.mp q x hx)
theorem pl_pcf : plainFor mt_pcf.1 = true := by first | decide +kernel | exact plainFor_of_name (by first | (simp [plainName, overriddenIn]; done) | decide +kernel)
theorem pd_pcf : parseMethodDescriptor "(IIILjava/util/function/BiFunction;)I" = some ⟨[.int, .int, .int, (.object "java/util/function/BiFunction")], some .int⟩ := by decide +kernel

set_option maxRecDepth 65536 in
set_option maxHeartbeats 4000000 in
theorem ct_pcf {l : Launch} {Z : State} {a0 : Array Value} (G : Gd Z a0) {i j m : Nat} (hi : i ≤ j) (hj : j ≤ m) (h31 : m < 2 ^ 31) {f : Value} (hf : f.isRef = true) (h : Heap) :
    Ct l Z EL1 mt_pcf ({ frames := 0, cells := 0, slots := 0, locals := 0 } : Room) #[.int (Int32.ofNat i), .int (Int32.ofNat j), .int (Int32.ofNat m), f] h [] (fun v h' => v = some (.int (Int32.ofNat i)) ∧ h = h') := by
  rcases ref_cases hf with rfl | ⟨f, rfl⟩
  · refine Ct.of_wp pl_pcf G.2.1 (Ls := #[.val (.int (Int32.ofNat i)), .val (.int (Int32.ofNat j)), .val (.int (Int32.ofNat m)), .val .null]) rfl ?_
    refine Wp.run ok_pcf 1 1 #[.val (.int (Int32.ofNat i)), .val (.int (Int32.ofNat j)), .val (.int (Int32.ofNat m)), .val .null] [(.int (Int32.ofNat i))] rfl ?_
    refine Wp.ifF ok_pcf rfl rfl (show ¬ (Int32.ofNat i) < (0 : Int32) from Int32.ofNat_not_neg (by omega)) ?_
    refine Wp.run ok_pcf 2 6 #[.val (.int (Int32.ofNat i)), .val (.int (Int32.ofNat j)), .val (.int (Int32.ofNat m)), .val .null] [(.int (Int32.ofNat j)), (.int (Int32.ofNat i))] rfl ?_
    refine Wp.icmpF ok_pcf rfl rfl (show ¬ (Int32.ofNat j) < (Int32.ofNat i) from fun q => absurd ((n_lt (by omega) (by omega)).mp q) (by omega)) ?_
    refine Wp.run ok_pcf 2 11 #[.val (.int (Int32.ofNat i)), .val (.int (Int32.ofNat j)), .val (.int (Int32.ofNat m)), .val .null] [(.int (Int32.ofNat m)), (.int (Int32.ofNat j))] rfl ?_
    refine Wp.icmpT ok_pcf 22 rfl rfl (show ¬ (Int32.ofNat m) < (Int32.ofNat j) from fun q => absurd ((n_lt (by omega) (by omega)).mp q) (by omega)) (by decide) (by decide) ?_
    refine Wp.run ok_pcf 1 23 #[.val (.int (Int32.ofNat i)), .val (.int (Int32.ofNat j)), .val (.int (Int32.ofNat m)), .val .null] [(.int (Int32.ofNat i))] rfl ?_
    exact Wp.retI ok_pcf (t := .int) rfl (by decide) rfl rfl rfl ⟨rfl, rfl⟩
  · refine Ct.of_wp pl_pcf G.2.1 (Ls := #[.val (.int (Int32.ofNat i)), .val (.int (Int32.ofNat j)), .val (.int (Int32.ofNat m)), .val (.ref f)]) rfl ?_
    refine Wp.run ok_pcf 1 1 #[.val (.int (Int32.ofNat i)), .val (.int (Int32.ofNat j)), .val (.int (Int32.ofNat m)), .val (.ref f)] [(.int (Int32.ofNat i))] rfl ?_
    refine Wp.ifF ok_pcf rfl rfl (show ¬ (Int32.ofNat i) < (0 : Int32) from Int32.ofNat_not_neg (by omega)) ?_
    refine Wp.run ok_pcf 2 6 #[.val (.int (Int32.ofNat i)), .val (.int (Int32.ofNat j)), .val (.int (Int32.ofNat m)), .val (.ref f)] [(.int (Int32.ofNat j)), (.int (Int32.ofNat i))] rfl ?_
    refine Wp.icmpF ok_pcf rfl rfl (show ¬ (Int32.ofNat j) < (Int32.ofNat i) from fun q => absurd ((n_lt (by omega) (by omega)).mp q) (by omega)) ?_
    refine Wp.run ok_pcf 2 11 #[.val (.int (Int32.ofNat i)), .val (.int (Int32.ofNat j)), .val (.int (Int32.ofNat m)), .val (.ref f)] [(.int (Int32.ofNat m)), (.int (Int32.ofNat j))] rfl ?_
    refine Wp.icmpT ok_pcf 22 rfl rfl (show ¬ (Int32.ofNat m) < (Int32.ofNat j) from fun q => absurd ((n_lt (by omega) (by omega)).mp q) (by omega)) (by decide) (by decide) ?_
    refine Wp.run ok_pcf 1 23 #[.val (.int (Int32.ofNat i)), .val (.int (Int32.ofNat j)), .val (.int (Int32.ofNat m)), .val (.ref f)] [(.int (Int32.ofNat i))] rfl ?_
    exact Wp.retI ok_pcf (t := .int) rfl (by decide) rfl rfl rfl ⟨rfl, rfl⟩

abbrev mt_cbb : Mth := (⟨"java/lang/String", "checkBoundsBeginEnd", "(III)V"⟩, jdk_42_method_158_code, 3, none)
def tb_cbb : Tab := [(0, .iload_n 0, 1), (1, .iload_n 1, 1), (2, .iload_n 2, 1), (3, .getstatic 1053, 3), (6, .invokestatic 1062, 3), (9, .pop, 1), (10, .return_, 1)]
theorem ok_cbb : TabOk mt_cbb.2.1 tb_cbb := by
  intro x hx
  have q : tb_cbb.all (fun x => decide (decode jdk_42_method_158_code x.1 = .ok x.2)) = true := by decide +kernel
  exact of_decide_eq_true (List.all_eq_true.mp q x hx)
theorem pl_cbb : plainFor mt_cbb.1 = true := by first | decide +kernel | exact plainFor_of_name (by first | (simp [plainName, overriddenIn]; done) | decide +kernel)
theorem pd_cbb : parseMethodDescriptor "(III)V" = some ⟨[.int, .int, .int], none⟩ := by decide +kernel

set_option maxRecDepth 65536 in
set_option maxHeartbeats 4000000 in
theorem ct_cbb {l : Launch} {Z : State} {a0 : Array Value} (G : Gd Z a0) {i j m : Nat} (hi : i ≤ j) (hj : j ≤ m) (h31 : m < 2 ^ 31) (h : Heap)  :
    Ct l Z EL1 mt_cbb ({ frames := 1, cells := 0, slots := 0, locals := 15 } : Room) #[(.int (Int32.ofNat i)), (.int (Int32.ofNat j)), (.int (Int32.ofNat m))] h [] (fun v h' => v = none ∧ h = h') := by
  refine Ct.of_wp pl_cbb G.2.1 (Ls := #[.val (.int (Int32.ofNat i)), .val (.int (Int32.ofNat j)), .val (.int (Int32.ofNat m))]) rfl ?_
  obtain ⟨vF, fF, rF⟩ := G.2.2.2.1
  refine Wp.run ok_cbb 3 3 #[.val (.int (Int32.ofNat i)), .val (.int (Int32.ofNat j)), .val (.int (Int32.ofNat m))] [(.int (Int32.ofNat m)), (.int (Int32.ofNat j)), (.int (Int32.ofNat i))] rfl ?_
  refine Wp.getS ok_cbb fF (G.1 _ (List.mem_of_getElem? (i := 218) rfl)) Via.refl rfl ?_
  refine Wp.callS ok_cbb (argsL := [(.int (Int32.ofNat i)), (.int (Int32.ofNat j)), (.int (Int32.ofNat m)), vF]) (rest := []) (ct_pcf G hi hj h31 rF h) G.2.1 (G.1 _ (List.mem_of_getElem? (i := 234) rfl)) (G.1 _ (List.mem_of_getElem? (i := 235) rfl)) (G.1 _ (List.mem_of_getElem? (i := 219) rfl)) (G.1 _ (List.mem_of_getElem? (i := 236) rfl)) rfl rfl (by decide) pd_pcf rfl rfl (Nat.le_of_ble_eq_true rfl) (Nat.le_of_ble_eq_true rfl) (Nat.le_of_ble_eq_true rfl) (Nat.le_of_ble_eq_true rfl) all0 ?_
  rintro _ _ ⟨rfl, rfl⟩ -
  refine Wp.run ok_cbb 1 10 #[.val (.int (Int32.ofNat i)), .val (.int (Int32.ofNat j)), .val (.int (Int32.ofNat m))] [] rfl ?_
  exact Wp.ret0 ok_cbb rfl rfl rfl ⟨rfl, rfl⟩

abbrev mt_ckl : Mth := (⟨"java/util/Arrays", "checkLength", "(II)V"⟩, jdk_65_method_131_code, 2, none)
def tb_ckl : Tab := [(0, .iload_n 1, 1), (1, .iload_n 0, 1), (2, .if_icmp .ge 35, 3), (5, .new 43, 3), (8, .dup, 1), (9, .new 45, 3), (12, .dup, 1), (13, .invokespecial 47, 3), (16, .iload_n 0, 1), (17, .invokevirtual 54, 3), (20, .ldc_w 337, 3), (23, .invokevirtual 50, 3), (26, .iload_n 1, 1), (27, .invokevirtual 54, 3), (30, .invokevirtual 61, 3), (33, .invokespecial 65, 3), (36, .athrow, 1), (37, .return_, 1)]
theorem ok_ckl : TabOk mt_ckl.2.1 tb_ckl := by
  intro x hx
  have q : tb_ckl.all (fun x => decide (decode jdk_65_method_131_code x.1 = .ok x.2)) = true := by decide +kernel
  exact of_decide_eq_true (List.all_eq_true.mp q x hx)
theorem pl_ckl : plainFor mt_ckl.1 = true := by first | decide +kernel | exact plainFor_of_name (by first | (simp [plainName, overriddenIn]; done) | decide +kernel)
theorem pd_ckl : parseMethodDescriptor "(II)V" = some ⟨[.int, .int], none⟩ := by decide +kernel

set_option maxRecDepth 65536 in
set_option maxHeartbeats 4000000 in
theorem ct_ckl {l : Launch} {Z : State} {a0 : Array Value} (G : Gd Z a0) {i j : Nat} (hi : i ≤ j) (h31 : j < 2 ^ 31) (h : Heap)  :
    Ct l Z EL1 mt_ckl ({ frames := 0, cells := 0, slots := 0, locals := 0 } : Room) #[(.int (Int32.ofNat i)), (.int (Int32.ofNat j))] h [] (fun v h' => v = none ∧ h = h') := by
  refine Ct.of_wp pl_ckl G.2.1 (Ls := #[.val (.int (Int32.ofNat i)), .val (.int (Int32.ofNat j))]) rfl ?_
  refine Wp.run ok_ckl 2 2 #[.val (.int (Int32.ofNat i)), .val (.int (Int32.ofNat j))] [(.int (Int32.ofNat i)), (.int (Int32.ofNat j))] rfl ?_
  refine Wp.icmpT ok_ckl 37 rfl rfl (show ¬ (Int32.ofNat j) < (Int32.ofNat i) from fun q => absurd ((n_lt (by omega) (by omega)).mp q) (by omega)) (by decide) (by decide) ?_
  exact Wp.ret0 ok_ckl rfl rfl rfl ⟨rfl, rfl⟩

abbrev mt_min : Mth := (⟨"java/lang/Math", "min", "(II)I"⟩, jdk_29_method_69_code, 2, some .int)
def tb_min : Tab := [(0, .iload_n 0, 1), (1, .iload_n 1, 1), (2, .if_icmp .gt 7, 3), (5, .iload_n 0, 1), (6, .goto 4, 3), (9, .iload_n 1, 1), (10, .ireturn, 1)]
theorem ok_min : TabOk mt_min.2.1 tb_min := by
  intro x hx
  have q : tb_min.all (fun x => decide (decode jdk_29_method_69_code x.1 = .ok x.2)) = true := by decide +kernel
  exact of_decide_eq_true (List.all_eq_true.mp q x hx)
theorem pl_min : plainFor mt_min.1 = true := by first | decide +kernel | exact plainFor_of_name (by first | (simp [plainName, overriddenIn]; done) | decide +kernel)
theorem pd_min : parseMethodDescriptor "(II)I" = some ⟨[.int, .int], some .int⟩ := by decide +kernel

set_option maxRecDepth 65536 in
set_option maxHeartbeats 4000000 in
theorem ct_min {l : Launch} {Z : State} {a0 : Array Value} (G : Gd Z a0) {x y : Int32} (h : Heap)  :
    Ct l Z EL1 mt_min ({ frames := 0, cells := 0, slots := 0, locals := 0 } : Room) #[(.int x), (.int y)] h [] (fun v h' => v = some (.int (if y < x then y else x)) ∧ h = h') := by
  refine Ct.of_wp pl_min G.2.1 (Ls := #[.val (.int x), .val (.int y)]) rfl ?_
  refine Wp.run ok_min 2 2 #[.val (.int x), .val (.int y)] [(.int y), (.int x)] rfl ?_
  refine Wp.icmp ok_min 9 rfl rfl (by decide) (by decide) (fun hc => ?_) (fun hc => ?_)
  · replace hc : y < x := hc
    refine Wp.run ok_min 1 10 #[.val (.int x), .val (.int y)] [(.int y)] rfl ?_
    exact Wp.retI ok_min (t := .int) rfl (by decide) rfl rfl rfl ⟨by rw [if_pos hc], rfl⟩
  · replace hc : ¬ y < x := hc
    refine Wp.run ok_min 2 10 #[.val (.int x), .val (.int y)] [(.int x)] rfl ?_
    exact Wp.retI ok_min (t := .int) rfl (by decide) rfl rfl rfl ⟨by rw [if_neg hc], rfl⟩

abbrev mt_crb : Mth := (⟨"java/util/Arrays", "copyOfRangeByte", "([BII)[B"⟩, jdk_65_method_133_code, 5, some (.array .byte))
def tb_crb : Tab := [(0, .iload_n 1, 1), (1, .iload_n 2, 1), (2, .invokestatic 343, 3), (5, .iload_n 2, 1), (6, .iload_n 1, 1), (7, .isub, 1), (8, .istore_n 3, 1), (9, .iload_n 3, 1), (10, .newarray .byte, 2), (12, .astore 4, 2), (14, .aload_n 0, 1), (15, .iload_n 1, 1), (16, .aload 4, 2), (18, .iconst 0, 1), (19, .aload_n 0, 1), (20, .arraylength, 1), (21, .iload_n 1, 1), (22, .isub, 1), (23, .iload_n 3, 1), (24, .invokestatic 304, 3), (27, .invokestatic 150, 3), (30, .aload 4, 2), (32, .areturn, 1)]
theorem ok_crb : TabOk mt_crb.2.1 tb_crb := by
  intro x hx
  have q : tb_crb.all (fun x => decide (decode jdk_65_method_133_code x.1 = .ok x.2)) = true := by decide +kernel
  exact of_decide_eq_true (List.all_eq_true.mp q x hx)
theorem pl_crb : plainFor mt_crb.1 = true := by first | decide +kernel | exact plainFor_of_name (by first | (simp [plainName, overriddenIn]; done) | decide +kernel)
theorem pd_crb : parseMethodDescriptor "([BII)[B" = some ⟨[(.array .byte), .int, .int], some (.array .byte)⟩ := by decide +kernel

set_option maxRecDepth 65536 in
set_option maxHeartbeats 4000000 in
theorem ct_crb {l : Launch} {Z : State} {a0 : Array Value} (G : Gd Z a0) {a : Addr} {vs : List Value} {i j : Nat} (hi : i ≤ j) (hj : j ≤ vs.length) (hcap : j - i ≤ 16) (h : Heap) (A : Ar Z h a .byte vs) :
    Ct l Z EL1 mt_crb ({ frames := 1, cells := 1, slots := 16, locals := 18 } : Room) #[(.ref a), (.int (Int32.ofNat i)), (.int (Int32.ofNat j))] h [] (fun v h' => ∃ d, v = some (.ref d) ∧ Ext h h' ∧ Ar Z h' d .byte ((vs.drop i).take (j - i)) ∧ h.size ≤ d) := by
  refine Ct.of_wp pl_crb G.2.1 (Ls := #[.val (.ref a), .val (.int (Int32.ofNat i)), .val (.int (Int32.ofNat j)), .unset, .unset]) rfl ?_
  have h31 := A.len
  refine Wp.run ok_crb 2 2 #[.val (.ref a), .val (.int (Int32.ofNat i)), .val (.int (Int32.ofNat j)), .unset, .unset] [(.int (Int32.ofNat j)), (.int (Int32.ofNat i))] rfl ?_
  refine Wp.callS ok_crb (argsL := [(.int (Int32.ofNat i)), (.int (Int32.ofNat j))]) (rest := []) (ct_ckl G hi (by omega) h) G.2.1 (G.1 _ (List.mem_of_getElem? (i := 198) rfl)) (G.1 _ (List.mem_of_getElem? (i := 199) rfl)) (G.1 _ (List.mem_of_getElem? (i := 193) rfl)) (G.1 _ (List.mem_of_getElem? (i := 200) rfl)) rfl rfl (by decide) pd_ckl rfl rfl (Nat.le_of_ble_eq_true rfl) (Nat.le_of_ble_eq_true rfl) (Nat.le_of_ble_eq_true rfl) (Nat.le_of_ble_eq_true rfl) all0 ?_
  rintro _ _ ⟨rfl, rfl⟩ -
  refine Wp.run ok_crb 5 10 #[.val (.ref a), .val (.int (Int32.ofNat i)), .val (.int (Int32.ofNat j)), .val (.int ((Int32.ofNat j) - (Int32.ofNat i))), .unset] [(.int ((Int32.ofNat j) - (Int32.ofNat i)))] rfl ?_
  refine Wp.at #[.val (.ref a), .val (.int (Int32.ofNat i)), .val (.int (Int32.ofNat j)), .val (.int (Int32.ofNat (j - i))), .unset] [(.int (Int32.ofNat (j - i)))] ⟨(by rw [n_sub hi] <;> rfl), (by rw [n_sub hi] <;> rfl)⟩ ?_
  refine Wp.newP ok_crb (len := (j - i)) (cap := 16) (G.1 _ (List.mem_of_getElem? (i := 28) rfl)) rfl rfl rfl hcap (Nat.le_of_ble_eq_true rfl) (Nat.le_of_ble_eq_true rfl) (Nat.le_of_ble_eq_true rfl) ?_
  intro h1 E1 B1
  refine Wp.run ok_crb 6 20 #[.val (.ref a), .val (.int (Int32.ofNat i)), .val (.int (Int32.ofNat j)), .val (.int (Int32.ofNat (j - i))), .val (.ref h.size)] [(.ref a), (.int (0 : Int32)), (.ref h.size), (.int (Int32.ofNat i)), (.ref a)] rfl ?_
  refine Wp.alen ok_crb (A.ext E1) rfl rfl ?_
  refine Wp.run ok_crb 3 24 #[.val (.ref a), .val (.int (Int32.ofNat i)), .val (.int (Int32.ofNat j)), .val (.int (Int32.ofNat (j - i))), .val (.ref h.size)] [(.int (Int32.ofNat (j - i))), (.int ((Int32.ofNat vs.length) - (Int32.ofNat i))), (.int (0 : Int32)), (.ref h.size), (.int (Int32.ofNat i)), (.ref a)] rfl ?_
  refine Wp.at #[.val (.ref a), .val (.int (Int32.ofNat i)), .val (.int (Int32.ofNat j)), .val (.int (Int32.ofNat (j - i))), .val (.ref h.size)] [(.int (Int32.ofNat (j - i))), (.int (Int32.ofNat (vs.length - i))), (.int (0 : Int32)), (.ref h.size), (.int (Int32.ofNat i)), (.ref a)] ⟨rfl, (by rw [n_sub (show i ≤ vs.length by omega)] <;> rfl)⟩ ?_
  refine Wp.callS ok_crb (argsL := [(.int (Int32.ofNat (vs.length - i))), (.int (Int32.ofNat (j - i)))]) (rest := [(.int (0 : Int32)), (.ref h.size), (.int (Int32.ofNat i)), (.ref a)]) (ct_min G (x := Int32.ofNat (vs.length - i)) (y := Int32.ofNat (j - i)) h1) G.2.1 (G.1 _ (List.mem_of_getElem? (i := 201) rfl)) (G.1 _ (List.mem_of_getElem? (i := 89) rfl)) (G.1 _ (List.mem_of_getElem? (i := 86) rfl)) (G.1 _ (List.mem_of_getElem? (i := 90) rfl)) rfl rfl (by decide) pd_min rfl rfl (Nat.le_of_ble_eq_true rfl) (Nat.le_of_ble_eq_true rfl) (Nat.le_of_ble_eq_true rfl) (Nat.le_of_ble_eq_true rfl) all0 ?_
  rintro _ _ ⟨rfl, rfl⟩ -
  have e2 : (if Int32.ofNat (j - i) < Int32.ofNat (vs.length - i) then Int32.ofNat (j - i) else Int32.ofNat (vs.length - i)) = Int32.ofNat (j - i) := by
    split
    · rfl
    · rename_i q; rw [n_lt (by omega) (by omega)] at q; rw [show vs.length - i = j - i by omega]
  refine Wp.at #[.val (.ref a), .val (.int (Int32.ofNat i)), .val (.int (Int32.ofNat j)), .val (.int (Int32.ofNat (j - i))), .val (.ref h.size)] [(.int (Int32.ofNat (j - i))), (.int (0 : Int32)), (.ref h.size), (.int (Int32.ofNat i)), (.ref a)] ⟨rfl, (by rw [e2] <;> rfl)⟩ ?_
  refine Wp.acopy ok_crb (i := i) (j := 0) (len := (j - i)) (A.ext E1) B1 (List.mem_of_getElem? (i := 0) rfl) rfl rfl rfl rfl (by omega) (by simp) (G.1 _ (List.mem_of_getElem? (i := 202) rfl)) (G.1 _ (List.mem_of_getElem? (i := 159) rfl)) (G.1 _ (List.mem_of_getElem? (i := 157) rfl)) (G.1 _ (List.mem_of_getElem? (i := 158) rfl)) rfl rfl rfl (Nat.le_of_ble_eq_true rfl) (Nat.le_of_ble_eq_true rfl) ?_
  intro h2 K2 B2
  refine Wp.run ok_crb 1 32 #[.val (.ref a), .val (.int (Int32.ofNat i)), .val (.int (Int32.ofNat j)), .val (.int (Int32.ofNat (j - i))), .val (.ref h.size)] [(.ref h.size)] rfl ?_
  exact Wp.retA ok_crb (t := (.array .byte)) rfl rfl rfl rfl rfl ⟨_, rfl, ext_keep E1 K2 (all1 (Nat.le_refl _)), by simpa using B2, Nat.le_refl _⟩

abbrev mt_cor : Mth := (⟨"java/util/Arrays", "copyOfRange", "([BII)[B"⟩, jdk_65_method_132_code, 3, some (.array .byte))
def tb_cor : Tab := [(0, .iload_n 1, 1), (1, .ifCond .ne 9, 3), (4, .iload_n 2, 1), (5, .aload_n 0, 1), (6, .arraylength, 1), (7, .if_icmp .eq 10, 3), (10, .aload_n 0, 1), (11, .iload_n 1, 1), (12, .iload_n 2, 1), (13, .invokestatic 339, 3), (16, .areturn, 1), (17, .aload_n 0, 1), (18, .invokevirtual 310, 3), (21, .checkcast 311, 3), (24, .areturn, 1)]
theorem ok_cor : TabOk mt_cor.2.1 tb_cor := by
  intro x hx
  have q : tb_cor.all (fun x => decide (decode jdk_65_method_132_code x.1 = .ok x.2)) = true := by decide +kernel
  exact of_decide_eq_true (List.all_eq_true.mp q x hx)
theorem pl_cor : plainFor mt_cor.1 = true := by first | decide +kernel | exact plainFor_of_name (by first | (simp [plainName, overriddenIn]; done) | decide +kernel)
theorem pd_cor : parseMethodDescriptor "([BII)[B" = some ⟨[(.array .byte), .int, .int], some (.array .byte)⟩ := by decide +kernel

set_option maxRecDepth 65536 in
set_option maxHeartbeats 4000000 in
theorem ct_cor {l : Launch} {Z : State} {a0 : Array Value} (G : Gd Z a0) {a : Addr} {vs : List Value} {i j : Nat} (hi : i ≤ j) (hj : j ≤ vs.length) (hcap : j - i ≤ 16) (hne : ¬ (i = 0 ∧ j = vs.length)) (h : Heap) (A : Ar Z h a .byte vs) :
    Ct l Z EL1 mt_cor ({ frames := 2, cells := 1, slots := 16, locals := 34 } : Room) #[(.ref a), (.int (Int32.ofNat i)), (.int (Int32.ofNat j))] h [] (fun v h' => ∃ d, v = some (.ref d) ∧ Ext h h' ∧ Ar Z h' d .byte ((vs.drop i).take (j - i)) ∧ h.size ≤ d) := by
  refine Ct.of_wp pl_cor G.2.1 (Ls := #[.val (.ref a), .val (.int (Int32.ofNat i)), .val (.int (Int32.ofNat j))]) rfl ?_
  have h31 := A.len
  refine Wp.run ok_cor 1 1 #[.val (.ref a), .val (.int (Int32.ofNat i)), .val (.int (Int32.ofNat j))] [(.int (Int32.ofNat i))] rfl ?_
  refine Wp.if0 ok_cor 10 rfl rfl (by decide) (by decide) (fun hc => ?_) (fun hc => ?_)
  · replace hc : ¬ (Int32.ofNat i) = (0 : Int32) := hc
    refine Wp.run ok_cor 3 13 #[.val (.ref a), .val (.int (Int32.ofNat i)), .val (.int (Int32.ofNat j))] [(.int (Int32.ofNat j)), (.int (Int32.ofNat i)), (.ref a)] rfl ?_
    refine Wp.callS ok_cor (argsL := [(.ref a), (.int (Int32.ofNat i)), (.int (Int32.ofNat j))]) (rest := []) (ct_crb G hi hj hcap h A) G.2.1 (G.1 _ (List.mem_of_getElem? (i := 195) rfl)) (G.1 _ (List.mem_of_getElem? (i := 196) rfl)) (G.1 _ (List.mem_of_getElem? (i := 193) rfl)) (G.1 _ (List.mem_of_getElem? (i := 197) rfl)) rfl rfl (by decide) pd_crb rfl rfl (Nat.le_of_ble_eq_true rfl) (Nat.le_of_ble_eq_true rfl) (Nat.le_of_ble_eq_true rfl) (Nat.le_of_ble_eq_true rfl) all0 ?_
    rintro _ h1 ⟨d, rfl, E1, B1, hd⟩ -
    exact Wp.retA ok_cor (t := (.array .byte)) rfl rfl rfl rfl rfl ⟨d, rfl, E1, B1, hd⟩
  · replace hc : (Int32.ofNat i) = (0 : Int32) := hc
    have hi0 : i = 0 := (n_eq (by omega) (by decide)).mp hc
    refine Wp.run ok_cor 2 6 #[.val (.ref a), .val (.int (Int32.ofNat i)), .val (.int (Int32.ofNat j))] [(.ref a), (.int (Int32.ofNat j))] rfl ?_
    refine Wp.alen ok_cor A rfl rfl ?_
    refine Wp.icmpF ok_cor rfl rfl (show ¬ (Int32.ofNat j) = (Int32.ofNat vs.length) from fun z => hne ⟨hi0, (n_eq (by omega) (by omega)).mp z⟩) ?_
    refine Wp.run ok_cor 3 13 #[.val (.ref a), .val (.int (Int32.ofNat i)), .val (.int (Int32.ofNat j))] [(.int (Int32.ofNat j)), (.int (Int32.ofNat i)), (.ref a)] rfl ?_
    refine Wp.callS ok_cor (argsL := [(.ref a), (.int (Int32.ofNat i)), (.int (Int32.ofNat j))]) (rest := []) (ct_crb G hi hj hcap h A) G.2.1 (G.1 _ (List.mem_of_getElem? (i := 195) rfl)) (G.1 _ (List.mem_of_getElem? (i := 196) rfl)) (G.1 _ (List.mem_of_getElem? (i := 193) rfl)) (G.1 _ (List.mem_of_getElem? (i := 197) rfl)) rfl rfl (by decide) pd_crb rfl rfl (Nat.le_of_ble_eq_true rfl) (Nat.le_of_ble_eq_true rfl) (Nat.le_of_ble_eq_true rfl) (Nat.le_of_ble_eq_true rfl) all0 ?_
    rintro _ h1 ⟨d, rfl, E1, B1, hd⟩ -
    exact Wp.retA ok_cor (t := (.array .byte)) rfl rfl rfl rfl rfl ⟨d, rfl, E1, B1, hd⟩

abbrev mt_sbb : Mth := (⟨"java/lang/String", "<init>", "([BB)V"⟩, jdk_42_method_151_code, 3, none)
def tb_sbb : Tab := [(0, .aload_n 0, 1), (1, .invokespecial 1, 3), (4, .aload_n 0, 1), (5, .aload_n 1, 1), (6, .putfield 9, 3), (9, .aload_n 0, 1), (10, .iload_n 2, 1), (11, .putfield 15, 3), (14, .return_, 1)]
theorem ok_sbb : TabOk mt_sbb.2.1 tb_sbb := by
  intro x hx
  have q : tb_sbb.all (fun x => decide (decode jdk_42_method_151_code x.1 = .ok x.2)) = true := by decide +kernel
  exact of_decide_eq_true (List.all_eq_true.mp q x hx)
theorem pl_sbb : plainFor mt_sbb.1 = true := by first | decide +kernel | exact plainFor_of_name (by first | (simp [plainName, overriddenIn]; done) | decide +kernel)
theorem pd_sbb : parseMethodDescriptor "([BB)V" = some ⟨[(.array .byte), .byte], none⟩ := by decide +kernel

set_option maxRecDepth 65536 in
set_option maxHeartbeats 4000000 in
theorem ct_sbb {l : Launch} {Z : State} {a0 : Array Value} (G : Gd Z a0) {a d : Addr} {cs : List Int32} (hlat : Lat cs) (hda : d ≠ a) (h : Heap) (X0 : Exa Z h a "java/lang/String") (F1 : Fld Z h a "java/lang/String" "coder" "B" (.int 0)) {v0 : Value} (F2 : Fld Z h a "java/lang/String" "value" "[B" v0) (A : Ar Z h d .byte (byt cs)) :
    Ct l Z EL1 mt_sbb ({ frames := 1, cells := 0, slots := 0, locals := 12 } : Room) #[(.ref a), (.ref d), (.int 0)] h [a] (fun v h' => v = none ∧ Keep h h' [a] ∧ Str Z h' a cs) := by
  refine Ct.of_wp pl_sbb G.2.1 (Ls := #[.val (.ref a), .val (.ref d), .val (.int 0)]) rfl ?_
  refine Wp.run ok_sbb 1 1 #[.val (.ref a), .val (.ref d), .val (.int 0)] [(.ref a)] rfl ?_
  refine Wp.initO ok_sbb (G.1 _ (List.mem_of_getElem? (i := 20) rfl)) (G.1 _ (List.mem_of_getElem? (i := 21) rfl)) (G.1 _ (List.mem_of_getElem? (i := 22) rfl)) rfl rfl rfl (Nat.le_of_ble_eq_true rfl) (Nat.le_of_ble_eq_true rfl) ?_
  refine Wp.run ok_sbb 2 6 #[.val (.ref a), .val (.ref d), .val (.int 0)] [(.ref d), (.ref a)] rfl ?_
  refine Wp.putF ok_sbb (ty := (.array .byte)) F2 X0 (List.mem_of_getElem? (i := 0) rfl) (G.1 _ (List.mem_of_getElem? (i := 37) rfl)) Via.refl (Or.inr ⟨(G.1 _ (List.mem_of_getElem? (i := 38) rfl)), rfl, rfl⟩) (G.1 _ (List.mem_of_getElem? (i := 10) rfl)) (by decide) rfl rfl rfl ?_
  intro h1 w1
  refine Wp.run ok_sbb 2 11 #[.val (.ref a), .val (.ref d), .val (.int 0)] [(.int 0), (.ref a)] rfl ?_
  refine Wp.putF ok_sbb (ty := .byte) (F1.other w1 (Or.inr (slot_ne (Or.inr (G.1 _ (List.mem_of_getElem? (i := 36) rfl))) (Or.inr (G.1 _ (List.mem_of_getElem? (i := 38) rfl))) (by decide) (t := .byte) (t' := (.array .byte)) (by decide) (by decide)))) (X0.wr w1) (List.mem_of_getElem? (i := 0) rfl) (G.1 _ (List.mem_of_getElem? (i := 35) rfl)) Via.refl (Or.inr ⟨(G.1 _ (List.mem_of_getElem? (i := 36) rfl)), rfl, rfl⟩) (G.1 _ (List.mem_of_getElem? (i := 10) rfl)) (by decide) rfl rfl rfl ?_
  intro h2 w2
  exact Wp.ret0 ok_sbb rfl rfl rfl ⟨rfl, (wr_keep w1).trans (wr_keep w2) (fun x hx => Or.inl hx), hlat, (X0.wr w1).wr w2, (F1.other w1 (Or.inr (slot_ne (Or.inr (G.1 _ (List.mem_of_getElem? (i := 36) rfl))) (Or.inr (G.1 _ (List.mem_of_getElem? (i := 38) rfl))) (by decide) (t := .byte) (t' := (.array .byte)) (by decide) (by decide)))).same w2, d, (F2.same w1).other w2 (Or.inr (slot_ne (Or.inr (G.1 _ (List.mem_of_getElem? (i := 38) rfl))) (Or.inr (G.1 _ (List.mem_of_getElem? (i := 36) rfl))) (by decide) (t := (.array .byte)) (t' := .byte) (by decide) (by decide))), (A.other w1 hda).other w2 hda⟩

abbrev mt_lns : Mth := (⟨"java/lang/StringLatin1", "newString", "([BII)Ljava/lang/String;"⟩, jdk_43_method_47_code, 3, some (.object "java/lang/String"))
def tb_lns : Tab := [(0, .iload_n 2, 1), (1, .ifCond .ne 6, 3), (4, .ldc 151, 2), (6, .areturn, 1), (7, .new 1, 3), (10, .dup, 1), (11, .aload_n 0, 1), (12, .iload_n 1, 1), (13, .iload_n 1, 1), (14, .iload_n 2, 1), (15, .iadd, 1), (16, .invokestatic 232, 3), (19, .iconst 0, 1), (20, .invokespecial 112, 3), (23, .areturn, 1)]
theorem ok_lns : TabOk mt_lns.2.1 tb_lns := by
  intro x hx
  have q : tb_lns.all (fun x => decide (decode jdk_43_method_47_code x.1 = .ok x.2)) = true := by decide +kernel
  exact of_decide_eq_true (List.all_eq_true.mp q x hx)
theorem pl_lns : plainFor mt_lns.1 = true := by first | decide +kernel | exact plainFor_of_name (by first | (simp [plainName, overriddenIn]; done) | decide +kernel)
theorem pd_lns : parseMethodDescriptor "([BII)Ljava/lang/String;" = some ⟨[(.array .byte), .int, .int], some (.object "java/lang/String")⟩ := by decide +kernel

set_option maxRecDepth 65536 in
set_option maxHeartbeats 4000000 in
theorem ct_lns {l : Launch} {Z : State} {a0 : Array Value} (G : Gd Z a0) {b : Addr} {cs : List Int32} {i m : Nat} (hlat : Lat cs) (hm : i + m ≤ cs.length) (hcap : m ≤ 16) (hne : ¬ (i = 0 ∧ i + m = cs.length)) (hn0 : m ≠ 0) (h : Heap) (A : Ar Z h b .byte (byt cs)) :
    Ct l Z EL1 mt_lns ({ frames := 3, cells := 2, slots := 20, locals := 50 } : Room) #[(.ref b), (.int (Int32.ofNat i)), (.int (Int32.ofNat m))] h [] (fun v h' => ∃ a, v = some (.ref a) ∧ Ext h h' ∧ Str Z h' a ((cs.drop i).take m)) := by
  refine Ct.of_wp pl_lns G.2.1 (Ls := #[.val (.ref b), .val (.int (Int32.ofNat i)), .val (.int (Int32.ofNat m))]) rfl ?_
  have h31 : cs.length < 2 ^ 31 := by simpa using A.len
  refine Wp.run ok_lns 1 1 #[.val (.ref b), .val (.int (Int32.ofNat i)), .val (.int (Int32.ofNat m))] [(.int (Int32.ofNat m))] rfl ?_
  refine Wp.ifT ok_lns 7 rfl rfl (show ¬ (Int32.ofNat m) = (0 : Int32) from fun z => hn0 ((n_eq (by omega) (by decide)).mp z)) (by decide) (by decide) ?_
  refine Wp.new ok_lns (G.1 _ (List.mem_of_getElem? (i := 240) rfl)) (G.1 _ (List.mem_of_getElem? (i := 10) rfl)) (G.1 _ (List.mem_of_getElem? (i := 11) rfl)) rfl (Nat.le_of_ble_eq_true rfl) (Nat.le_of_ble_eq_true rfl) ?_
  intro h1 E1 X1 D_h1
  have F1_h1 : Fld Z h1 h.size "java/lang/String" "coder" "B" (.int 0) := D_h1 (Or.inr (G.1 _ (List.mem_of_getElem? (i := 36) rfl))) (ty := .byte) (by decide)
  have F2_h1 : Fld Z h1 h.size "java/lang/String" "value" "[B" .null := D_h1 (Or.inr (G.1 _ (List.mem_of_getElem? (i := 38) rfl))) (ty := .array .byte) (by decide)
  refine Wp.run ok_lns 6 16 #[.val (.ref b), .val (.int (Int32.ofNat i)), .val (.int (Int32.ofNat m))] [(.int ((Int32.ofNat i) + (Int32.ofNat m))), (.int (Int32.ofNat i)), (.ref b), (.ref h.size), (.ref h.size)] rfl ?_
  refine Wp.at #[.val (.ref b), .val (.int (Int32.ofNat i)), .val (.int (Int32.ofNat m))] [(.int (Int32.ofNat (i + m))), (.int (Int32.ofNat i)), (.ref b), (.ref h.size), (.ref h.size)] ⟨rfl, (by rw [n_add] <;> rfl)⟩ ?_
  refine Wp.callS ok_lns (argsL := [(.ref b), (.int (Int32.ofNat i)), (.int (Int32.ofNat (i + m)))]) (rest := [(.ref h.size), (.ref h.size)]) (ct_cor G (i := i) (j := i + m) (by omega) (by simpa using hm) (by omega) (by simpa using hne) h1 (A.ext E1)) G.2.1 (G.1 _ (List.mem_of_getElem? (i := 241) rfl)) (G.1 _ (List.mem_of_getElem? (i := 192) rfl)) (G.1 _ (List.mem_of_getElem? (i := 193) rfl)) (G.1 _ (List.mem_of_getElem? (i := 194) rfl)) rfl rfl (by decide) pd_cor rfl rfl (Nat.le_of_ble_eq_true rfl) (Nat.le_of_ble_eq_true rfl) (Nat.le_of_ble_eq_true rfl) (Nat.le_of_ble_eq_true rfl) all0 ?_
  rintro _ h2 ⟨d, rfl, E2, B2, hd⟩ -
  refine Wp.run ok_lns 1 20 #[.val (.ref b), .val (.int (Int32.ofNat i)), .val (.int (Int32.ofNat m))] [(.int (0 : Int32)), (.ref d), (.ref h.size), (.ref h.size)] rfl ?_
  have e2 : ((byt cs).drop i).take (i + m - i) = byt ((cs.drop i).take m) := by rw [show i + m - i = m by omega]; simp [List.map_drop, List.map_take]
  rw [e2] at B2
  refine Wp.callI ok_lns (a := h.size) (argsL := [(.ref d), (.int (0 : Int32))]) (rest := [(.ref h.size)]) (ct_sbb G (cs := (cs.drop i).take m) (hlat.sub fun x hx => List.mem_of_mem_drop (List.mem_of_mem_take hx)) (Nat.ne_of_gt (Nat.lt_of_lt_of_le X1.lt hd)) h2 (X1.ext E2) (F1_h1.ext E2) (F2_h1.ext E2) B2) G.2.1 (G.1 _ (List.mem_of_getElem? (i := 242) rfl)) (G.1 _ (List.mem_of_getElem? (i := 243) rfl)) (G.1 _ (List.mem_of_getElem? (i := 11) rfl)) (G.1 _ (List.mem_of_getElem? (i := 244) rfl)) rfl rfl rfl rfl (by decide) pd_sbb rfl rfl (Nat.le_of_ble_eq_true rfl) (Nat.le_of_ble_eq_true rfl) (Nat.le_of_ble_eq_true rfl) (Nat.le_of_ble_eq_true rfl) (allS (List.mem_of_getElem? (i := 0) rfl) all0) ?_
  rintro _ h3 ⟨rfl, K3, S3⟩ -
  exact Wp.retA ok_lns (t := (.object "java/lang/String")) rfl rfl rfl rfl rfl ⟨_, rfl, ext_keep (ext_trans E1 E2) K3 (all1 (Nat.le_refl _)), S3⟩

abbrev mt_sub : Mth := (⟨"java/lang/String", "substring", "(II)Ljava/lang/String;"⟩, jdk_42_method_92_code, 5, some (.object "java/lang/String"))
def tb_sub : Tab := [(0, .aload_n 0, 1), (1, .invokevirtual 505, 3), (4, .istore_n 3, 1), (5, .iload_n 1, 1), (6, .iload_n 2, 1), (7, .iload_n 3, 1), (8, .invokestatic 521, 3), (11, .iload_n 1, 1), (12, .ifCond .ne 10, 3), (15, .iload_n 2, 1), (16, .iload_n 3, 1), (17, .if_icmp .ne 5, 3), (20, .aload_n 0, 1), (21, .areturn, 1), (22, .iload_n 2, 1), (23, .iload_n 1, 1), (24, .isub, 1), (25, .istore 4, 2), (27, .aload_n 0, 1), (28, .invokevirtual 492, 3), (31, .ifCond .eq 16, 3), (34, .aload_n 0, 1), (35, .getfield 9, 3), (38, .iload_n 1, 1), (39, .iload 4, 2), (41, .invokestatic 685, 3), (44, .goto 13, 3), (47, .aload_n 0, 1), (48, .getfield 9, 3), (51, .iload_n 1, 1), (52, .iload 4, 2), (54, .invokestatic 689, 3), (57, .areturn, 1)]
theorem ok_sub : TabOk mt_sub.2.1 tb_sub := by
  intro x hx
  have q : tb_sub.all (fun x => decide (decode jdk_42_method_92_code x.1 = .ok x.2)) = true := by decide +kernel
  exact of_decide_eq_true (List.all_eq_true.mp q x hx)
theorem pl_sub : plainFor mt_sub.1 = true := by first | decide +kernel | exact plainFor_of_name (by first | (simp [plainName, overriddenIn]; done) | decide +kernel)
theorem pd_sub : parseMethodDescriptor "(II)Ljava/lang/String;" = some ⟨[.int, .int], some (.object "java/lang/String")⟩ := by decide +kernel

set_option maxRecDepth 65536 in
set_option maxHeartbeats 4000000 in
theorem ct_sub {l : Launch} {Z : State} {a0 : Array Value} (G : Gd Z a0) {a : Addr} {cs : List Int32} {i j : Nat} (hi : i ≤ j) (hj : j ≤ cs.length) (hcap : cs.length ≤ 16) (hn0 : i < j) (h : Heap) (S1 : Str Z h a cs) :
    Ct l Z EL1 mt_sub ({ frames := 4, cells := 2, slots := 20, locals := 64 } : Room) #[(.ref a), (.int (Int32.ofNat i)), (.int (Int32.ofNat j))] h [] (fun v h' => ∃ d, v = some (.ref d) ∧ Ext h h' ∧ Str Z h' d ((cs.drop i).take (j - i))) := by
  refine Ct.of_wp pl_sub G.2.1 (Ls := #[.val (.ref a), .val (.int (Int32.ofNat i)), .val (.int (Int32.ofNat j)), .unset, .unset]) rfl ?_
  have h31 := S1.len
  refine Wp.run ok_sub 1 1 #[.val (.ref a), .val (.int (Int32.ofNat i)), .val (.int (Int32.ofNat j)), .unset, .unset] [(.ref a)] rfl ?_
  refine Wp.callV ok_sub (a := a) (argsL := []) (rest := []) (ct_len G h S1) S1.exa G.2.1 (G.1 _ (List.mem_of_getElem? (i := 67) rfl)) (G.1 _ (List.mem_of_getElem? (i := 68) rfl)) (G.1 _ (List.mem_of_getElem? (i := 70) rfl)) (G.1 _ (List.mem_of_getElem? (i := 69) rfl)) (G.1 _ (List.mem_of_getElem? (i := 11) rfl)) (G.1 _ (List.mem_of_getElem? (i := 71) rfl)) rfl rfl (by decide) pd_len rfl rfl (Nat.le_of_ble_eq_true rfl) (Nat.le_of_ble_eq_true rfl) (Nat.le_of_ble_eq_true rfl) (Nat.le_of_ble_eq_true rfl) all0 ?_
  rintro _ _ ⟨rfl, rfl⟩ -
  refine Wp.run ok_sub 4 8 #[.val (.ref a), .val (.int (Int32.ofNat i)), .val (.int (Int32.ofNat j)), .val (.int (Int32.ofNat cs.length)), .unset] [(.int (Int32.ofNat cs.length)), (.int (Int32.ofNat j)), (.int (Int32.ofNat i))] rfl ?_
  refine Wp.callS ok_sub (argsL := [(.int (Int32.ofNat i)), (.int (Int32.ofNat j)), (.int (Int32.ofNat cs.length))]) (rest := []) (ct_cbb G hi hj h31 h) G.2.1 (G.1 _ (List.mem_of_getElem? (i := 231) rfl)) (G.1 _ (List.mem_of_getElem? (i := 232) rfl)) (G.1 _ (List.mem_of_getElem? (i := 11) rfl)) (G.1 _ (List.mem_of_getElem? (i := 233) rfl)) rfl rfl (by decide) pd_cbb rfl rfl (Nat.le_of_ble_eq_true rfl) (Nat.le_of_ble_eq_true rfl) (Nat.le_of_ble_eq_true rfl) (Nat.le_of_ble_eq_true rfl) all0 ?_
  rintro _ _ ⟨rfl, rfl⟩ -
  refine Wp.run ok_sub 1 12 #[.val (.ref a), .val (.int (Int32.ofNat i)), .val (.int (Int32.ofNat j)), .val (.int (Int32.ofNat cs.length)), .unset] [(.int (Int32.ofNat i))] rfl ?_
  refine Wp.if0 ok_sub 22 rfl rfl (by decide) (by decide) (fun hc => ?_) (fun hc => ?_)
  · replace hc : ¬ (Int32.ofNat i) = (0 : Int32) := hc
    refine Wp.run ok_sub 5 28 #[.val (.ref a), .val (.int (Int32.ofNat i)), .val (.int (Int32.ofNat j)), .val (.int (Int32.ofNat cs.length)), .val (.int ((Int32.ofNat j) - (Int32.ofNat i)))] [(.ref a)] rfl ?_
    refine Wp.at #[.val (.ref a), .val (.int (Int32.ofNat i)), .val (.int (Int32.ofNat j)), .val (.int (Int32.ofNat cs.length)), .val (.int (Int32.ofNat (j - i)))] [(.ref a)] ⟨(by rw [n_sub hi] <;> rfl), rfl⟩ ?_
    refine Wp.callV ok_sub (a := a) (argsL := []) (rest := []) (ct_isl G h S1.cod) S1.exa G.2.1 (G.1 _ (List.mem_of_getElem? (i := 62) rfl)) (G.1 _ (List.mem_of_getElem? (i := 63) rfl)) (G.1 _ (List.mem_of_getElem? (i := 65) rfl)) (G.1 _ (List.mem_of_getElem? (i := 64) rfl)) (G.1 _ (List.mem_of_getElem? (i := 11) rfl)) (G.1 _ (List.mem_of_getElem? (i := 66) rfl)) rfl rfl (by decide) pd_isl rfl rfl (Nat.le_of_ble_eq_true rfl) (Nat.le_of_ble_eq_true rfl) (Nat.le_of_ble_eq_true rfl) (Nat.le_of_ble_eq_true rfl) all0 ?_
    rintro _ _ ⟨rfl, rfl⟩ -
    refine Wp.ifF ok_sub rfl rfl (show ¬ 1 = (0 : Int32) from by decide) ?_
    refine Wp.run ok_sub 1 35 #[.val (.ref a), .val (.int (Int32.ofNat i)), .val (.int (Int32.ofNat j)), .val (.int (Int32.ofNat cs.length)), .val (.int (Int32.ofNat (j - i)))] [(.ref a)] rfl ?_
    obtain ⟨b, V, A⟩ := S1.val
    refine Wp.getF ok_sub V (G.1 _ (List.mem_of_getElem? (i := 37) rfl)) Via.refl rfl rfl ?_
    refine Wp.run ok_sub 2 41 #[.val (.ref a), .val (.int (Int32.ofNat i)), .val (.int (Int32.ofNat j)), .val (.int (Int32.ofNat cs.length)), .val (.int (Int32.ofNat (j - i)))] [(.int (Int32.ofNat (j - i))), (.int (Int32.ofNat i)), (.ref b)] rfl ?_
    refine Wp.callS ok_sub (argsL := [(.ref b), (.int (Int32.ofNat i)), (.int (Int32.ofNat (j - i)))]) (rest := []) (ct_lns G (i := i) (m := j - i) S1.lat (by omega) (by omega) (fun z => hc (by rw [z.1]; rfl)) (by omega) h A) G.2.1 (G.1 _ (List.mem_of_getElem? (i := 237) rfl)) (G.1 _ (List.mem_of_getElem? (i := 238) rfl)) (G.1 _ (List.mem_of_getElem? (i := 79) rfl)) (G.1 _ (List.mem_of_getElem? (i := 239) rfl)) rfl rfl (by decide) pd_lns rfl rfl (Nat.le_of_ble_eq_true rfl) (Nat.le_of_ble_eq_true rfl) (Nat.le_of_ble_eq_true rfl) (Nat.le_of_ble_eq_true rfl) all0 ?_
    rintro _ h2 ⟨a2, rfl, E2, S2⟩ -
    refine Wp.run ok_sub 1 57 #[.val (.ref a), .val (.int (Int32.ofNat i)), .val (.int (Int32.ofNat j)), .val (.int (Int32.ofNat cs.length)), .val (.int (Int32.ofNat (j - i)))] [(.ref a2)] rfl ?_
    exact Wp.retA ok_sub (t := (.object "java/lang/String")) rfl rfl rfl rfl rfl ⟨a2, rfl, E2, S2⟩
  · replace hc : (Int32.ofNat i) = (0 : Int32) := hc
    have hi0 : i = 0 := (n_eq (by omega) (by decide)).mp hc
    refine Wp.run ok_sub 2 17 #[.val (.ref a), .val (.int (Int32.ofNat i)), .val (.int (Int32.ofNat j)), .val (.int (Int32.ofNat cs.length)), .unset] [(.int (Int32.ofNat cs.length)), (.int (Int32.ofNat j))] rfl ?_
    refine Wp.icmp ok_sub 22 rfl rfl (by decide) (by decide) (fun hd => ?_) (fun hd => ?_)
    · replace hd : ¬ (Int32.ofNat j) = (Int32.ofNat cs.length) := hd
      refine Wp.run ok_sub 5 28 #[.val (.ref a), .val (.int (Int32.ofNat i)), .val (.int (Int32.ofNat j)), .val (.int (Int32.ofNat cs.length)), .val (.int ((Int32.ofNat j) - (Int32.ofNat i)))] [(.ref a)] rfl ?_
      refine Wp.at #[.val (.ref a), .val (.int (Int32.ofNat i)), .val (.int (Int32.ofNat j)), .val (.int (Int32.ofNat cs.length)), .val (.int (Int32.ofNat (j - i)))] [(.ref a)] ⟨(by rw [n_sub hi] <;> rfl), rfl⟩ ?_
      refine Wp.callV ok_sub (a := a) (argsL := []) (rest := []) (ct_isl G h S1.cod) S1.exa G.2.1 (G.1 _ (List.mem_of_getElem? (i := 62) rfl)) (G.1 _ (List.mem_of_getElem? (i := 63) rfl)) (G.1 _ (List.mem_of_getElem? (i := 65) rfl)) (G.1 _ (List.mem_of_getElem? (i := 64) rfl)) (G.1 _ (List.mem_of_getElem? (i := 11) rfl)) (G.1 _ (List.mem_of_getElem? (i := 66) rfl)) rfl rfl (by decide) pd_isl rfl rfl (Nat.le_of_ble_eq_true rfl) (Nat.le_of_ble_eq_true rfl) (Nat.le_of_ble_eq_true rfl) (Nat.le_of_ble_eq_true rfl) all0 ?_
      rintro _ _ ⟨rfl, rfl⟩ -
      refine Wp.ifF ok_sub rfl rfl (show ¬ 1 = (0 : Int32) from by decide) ?_
      refine Wp.run ok_sub 1 35 #[.val (.ref a), .val (.int (Int32.ofNat i)), .val (.int (Int32.ofNat j)), .val (.int (Int32.ofNat cs.length)), .val (.int (Int32.ofNat (j - i)))] [(.ref a)] rfl ?_
      obtain ⟨b, V, A⟩ := S1.val
      refine Wp.getF ok_sub V (G.1 _ (List.mem_of_getElem? (i := 37) rfl)) Via.refl rfl rfl ?_
      refine Wp.run ok_sub 2 41 #[.val (.ref a), .val (.int (Int32.ofNat i)), .val (.int (Int32.ofNat j)), .val (.int (Int32.ofNat cs.length)), .val (.int (Int32.ofNat (j - i)))] [(.int (Int32.ofNat (j - i))), (.int (Int32.ofNat i)), (.ref b)] rfl ?_
      refine Wp.callS ok_sub (argsL := [(.ref b), (.int (Int32.ofNat i)), (.int (Int32.ofNat (j - i)))]) (rest := []) (ct_lns G (i := i) (m := j - i) S1.lat (by omega) (by omega) (fun z => hd (by rw [show j = cs.length by omega])) (by omega) h A) G.2.1 (G.1 _ (List.mem_of_getElem? (i := 237) rfl)) (G.1 _ (List.mem_of_getElem? (i := 238) rfl)) (G.1 _ (List.mem_of_getElem? (i := 79) rfl)) (G.1 _ (List.mem_of_getElem? (i := 239) rfl)) rfl rfl (by decide) pd_lns rfl rfl (Nat.le_of_ble_eq_true rfl) (Nat.le_of_ble_eq_true rfl) (Nat.le_of_ble_eq_true rfl) (Nat.le_of_ble_eq_true rfl) all0 ?_
      rintro _ h2 ⟨a2, rfl, E2, S2⟩ -
      refine Wp.run ok_sub 1 57 #[.val (.ref a), .val (.int (Int32.ofNat i)), .val (.int (Int32.ofNat j)), .val (.int (Int32.ofNat cs.length)), .val (.int (Int32.ofNat (j - i)))] [(.ref a2)] rfl ?_
      exact Wp.retA ok_sub (t := (.object "java/lang/String")) rfl rfl rfl rfl rfl ⟨a2, rfl, E2, S2⟩
    · replace hd : (Int32.ofNat j) = (Int32.ofNat cs.length) := hd
      have hj0 : j = cs.length := (n_eq (by omega) (by omega)).mp hd
      refine Wp.run ok_sub 1 21 #[.val (.ref a), .val (.int (Int32.ofNat i)), .val (.int (Int32.ofNat j)), .val (.int (Int32.ofNat cs.length)), .unset] [(.ref a)] rfl ?_
      exact Wp.retA ok_sub (t := (.object "java/lang/String")) rfl rfl rfl rfl rfl ⟨a, rfl, ext_refl h, by rw [hi0, hj0, List.drop_zero, Nat.sub_zero, List.take_length]; exact S1⟩

abbrev mt_cen : Mth := (⟨"java/lang/StringLatin1", "canEncode", "(I)Z"⟩, jdk_43_method_4_code, 1, some .boolean)
def tb_cen : Tab := [(0, .iload_n 0, 1), (1, .ifCond .lt 14, 3), (4, .iload_n 0, 1), (5, .sipush 255, 3), (8, .if_icmp .gt 7, 3), (11, .iconst 1, 1), (12, .goto 4, 3), (15, .iconst 0, 1), (16, .ireturn, 1)]
theorem ok_cen : TabOk mt_cen.2.1 tb_cen := by
  intro x hx
  have q : tb_cen.all (fun x => decide (decode jdk_43_method_4_code x.1 = .ok x.2)) = true := by decide +kernel
  exact of_decide_eq_true (List.all_eq_true.mp q x hx)
theorem pl_cen : plainFor mt_cen.1 = true := by first | decide +kernel | exact plainFor_of_name (by first | (simp [plainName, overriddenIn]; done) | decide +kernel)
theorem pd_cen : parseMethodDescriptor "(I)Z" = some ⟨[.int], some .boolean⟩ := by decide +kernel

set_option maxRecDepth 65536 in
set_option maxHeartbeats 4000000 in
theorem ct_cen {l : Launch} {Z : State} {a0 : Array Value} (G : Gd Z a0) {c : Int32} (hc : 0 ≤ c.toInt ∧ c.toInt ≤ 255) (h : Heap)  :
    Ct l Z EL1 mt_cen ({ frames := 0, cells := 0, slots := 0, locals := 0 } : Room) #[(.int c)] h [] (fun v h' => v = some (.int 1) ∧ h = h') := by
  refine Ct.of_wp pl_cen G.2.1 (Ls := #[.val (.int c)]) rfl ?_
  refine Wp.run ok_cen 1 1 #[.val (.int c)] [(.int c)] rfl ?_
  refine Wp.ifF ok_cen rfl rfl (show ¬ c < (0 : Int32) from Int32.not_lt.mpr (Int32.le_iff_toInt_le.mpr (by simpa using hc.1))) ?_
  refine Wp.run ok_cen 2 8 #[.val (.int c)] [(.int (255 : Int32)), (.int c)] rfl ?_
  refine Wp.icmpF ok_cen rfl rfl (show ¬ (255 : Int32) < c from Int32.not_lt.mpr (Int32.le_iff_toInt_le.mpr (by simpa using hc.2))) ?_
  refine Wp.run ok_cen 2 16 #[.val (.int c)] [(.int (1 : Int32))] rfl ?_
  exact Wp.retI ok_cen (t := .boolean) rfl (by decide) rfl rfl rfl ⟨rfl, rfl⟩

abbrev mt_max : Mth := (⟨"java/lang/Math", "max", "(II)I"⟩, jdk_29_method_65_code, 2, some .int)
def tb_max : Tab := [(0, .iload_n 0, 1), (1, .iload_n 1, 1), (2, .if_icmp .lt 7, 3), (5, .iload_n 0, 1), (6, .goto 4, 3), (9, .iload_n 1, 1), (10, .ireturn, 1)]
theorem ok_max : TabOk mt_max.2.1 tb_max := by
  intro x hx
  have q : tb_max.all (fun x => decide (decode jdk_29_method_65_code x.1 = .ok x.2)) = true := by decide +kernel
  exact of_decide_eq_true (List.all_eq_true.mp q x hx)
theorem pl_max : plainFor mt_max.1 = true := by first | decide +kernel | exact plainFor_of_name (by first | (simp [plainName, overriddenIn]; done) | decide +kernel)
theorem pd_max : parseMethodDescriptor "(II)I" = some ⟨[.int, .int], some .int⟩ := by decide +kernel

set_option maxRecDepth 65536 in
set_option maxHeartbeats 4000000 in
theorem ct_max {l : Launch} {Z : State} {a0 : Array Value} (G : Gd Z a0) {x y : Int32} (h : Heap)  :
    Ct l Z EL1 mt_max ({ frames := 0, cells := 0, slots := 0, locals := 0 } : Room) #[(.int x), (.int y)] h [] (fun v h' => v = some (.int (if x < y then y else x)) ∧ h = h') := by
  refine Ct.of_wp pl_max G.2.1 (Ls := #[.val (.int x), .val (.int y)]) rfl ?_
  refine Wp.run ok_max 2 2 #[.val (.int x), .val (.int y)] [(.int y), (.int x)] rfl ?_
  refine Wp.icmp ok_max 9 rfl rfl (by decide) (by decide) (fun hc => ?_) (fun hc => ?_)
  · replace hc : x < y := hc
    refine Wp.run ok_max 1 10 #[.val (.int x), .val (.int y)] [(.int y)] rfl ?_
    exact Wp.retI ok_max (t := .int) rfl (by decide) rfl rfl rfl ⟨by rw [if_pos hc], rfl⟩
  · replace hc : ¬ x < y := hc
    refine Wp.run ok_max 2 10 #[.val (.int x), .val (.int y)] [(.int x)] rfl ?_
    exact Wp.retI ok_max (t := .int) rfl (by decide) rfl rfl rfl ⟨by rw [if_neg hc], rfl⟩

abbrev mt_lic : Mth := (⟨"java/lang/StringLatin1", "indexOfChar", "([BIII)I"⟩, jdk_43_method_23_code, 6, some .int)
def tb_lic : Tab := [(0, .iload_n 1, 1), (1, .i2b, 1), (2, .istore 4, 2), (4, .iload_n 2, 1), (5, .istore 5, 2), (7, .iload 5, 2), (9, .iload_n 3, 1), (10, .if_icmp .ge 21, 3), (13, .aload_n 0, 1), (14, .iload 5, 2), (16, .baload, 1), (17, .iload 4, 2), (19, .if_icmp .ne 6, 3), (22, .iload 5, 2), (24, .ireturn, 1), (25, .iinc 5 1, 3), (28, .goto (-21), 3), (31, .iconst (-1), 1), (32, .ireturn, 1)]
theorem ok_lic : TabOk mt_lic.2.1 tb_lic := by
  intro x hx
  have q : tb_lic.all (fun x => decide (decode jdk_43_method_23_code x.1 = .ok x.2)) = true := by decide +kernel
  exact of_decide_eq_true (List.all_eq_true.mp q x hx)
theorem pl_lic : plainFor mt_lic.1 = true := by first | decide +kernel | exact plainFor_of_name (by first | (simp [plainName, overriddenIn]; done) | decide +kernel)
theorem pd_lic : parseMethodDescriptor "([BIII)I" = some ⟨[(.array .byte), .int, .int, .int], some .int⟩ := by decide +kernel

set_option maxRecDepth 65536 in
set_option maxHeartbeats 4000000 in
theorem lp_lic {l : Launch} {Z : State} {a0 : Array Value} (G : Gd Z a0) {b : Addr} {cs : List Int32} {c : Int32} {i0 : Nat} {h : Heap} (hl : Lat cs) (hc : 0 ≤ c.toInt ∧ c.toInt ≤ 255) (A : Ar Z h b .byte (byt cs)) (h31 : cs.length < 2 ^ 31) : ∀ (r i : Nat), i + r = cs.length → ixF (cs.drop i0) c i0 = ixF (cs.drop i) c i →
    Wp l Z EL1 mt_lic ({ frames := 0, cells := 0, slots := 0, locals := 0 } : Room) h [] 0 0 7 #[.val (.ref b), .val (.int c), .val (.int (Int32.ofNat i0)), .val (.int (Int32.ofNat cs.length)), .val (.int (lo8 c)), .val (.int (Int32.ofNat i))] [] (fun v h' => v = some (.int (ixF (cs.drop i0) c i0)) ∧ h = h') := by
  intro r
  induction r with
  | zero =>
    intro i hi hp
    refine Wp.run ok_lic 2 10 #[.val (.ref b), .val (.int c), .val (.int (Int32.ofNat i0)), .val (.int (Int32.ofNat cs.length)), .val (.int (lo8 c)), .val (.int (Int32.ofNat i))] [(.int (Int32.ofNat cs.length)), (.int (Int32.ofNat i))] rfl ?_
    refine Wp.icmpT ok_lic 31 rfl rfl (show ¬ (Int32.ofNat i) < (Int32.ofNat cs.length) from fun q => absurd ((n_lt (by omega) h31).mp q) (by omega)) (by decide) (by decide) ?_
    refine Wp.run ok_lic 1 32 #[.val (.ref b), .val (.int c), .val (.int (Int32.ofNat i0)), .val (.int (Int32.ofNat cs.length)), .val (.int (lo8 c)), .val (.int (Int32.ofNat i))] [(.int (-1 : Int32))] rfl ?_
    exact Wp.retI ok_lic (t := .int) rfl (by decide) rfl rfl rfl ⟨by rw [hp, List.drop_eq_nil_of_le (by omega)]; rfl, rfl⟩
  | succ r ih =>
    intro i hi hp
    obtain ⟨x, hx⟩ : ∃ c, cs[i]? = some c := ⟨_, List.getElem?_eq_getElem (by omega)⟩
    refine Wp.run ok_lic 2 10 #[.val (.ref b), .val (.int c), .val (.int (Int32.ofNat i0)), .val (.int (Int32.ofNat cs.length)), .val (.int (lo8 c)), .val (.int (Int32.ofNat i))] [(.int (Int32.ofNat cs.length)), (.int (Int32.ofNat i))] rfl ?_
    refine Wp.icmpF ok_lic rfl rfl (show (Int32.ofNat i) < (Int32.ofNat cs.length) from (n_lt (by omega) h31).mpr (by omega)) ?_
    refine Wp.run ok_lic 2 16 #[.val (.ref b), .val (.int c), .val (.int (Int32.ofNat i0)), .val (.int (Int32.ofNat cs.length)), .val (.int (lo8 c)), .val (.int (Int32.ofNat i))] [(.int (Int32.ofNat i)), (.ref b)] rfl ?_
    refine Wp.aget ok_lic A (i := i) (v := (.int (lo8 x))) rfl (by simp [hx]) rfl rfl rfl ?_
    refine Wp.run ok_lic 1 19 #[.val (.ref b), .val (.int c), .val (.int (Int32.ofNat i0)), .val (.int (Int32.ofNat cs.length)), .val (.int (lo8 c)), .val (.int (Int32.ofNat i))] [(.int (lo8 c)), (.int (lo8 x))] rfl ?_
    refine Wp.icmp ok_lic 25 rfl rfl (by decide) (by decide) (fun hd => ?_) (fun hd => ?_)
    · replace hd : ¬ (lo8 x) = (lo8 c) := hd
      refine Wp.run ok_lic 2 7 #[.val (.ref b), .val (.int c), .val (.int (Int32.ofNat i0)), .val (.int (Int32.ofNat cs.length)), .val (.int (lo8 c)), .val (.int ((Int32.ofNat i) + (1 : Int32)))] [] rfl ?_
      refine Wp.at #[.val (.ref b), .val (.int c), .val (.int (Int32.ofNat i0)), .val (.int (Int32.ofNat cs.length)), .val (.int (lo8 c)), .val (.int (Int32.ofNat (i + 1)))] [] ⟨by simp only [n_succ], rfl⟩ ?_
      refine ih (i + 1) (by omega) ?_
      rw [hp, ixF_cons hx, if_neg (fun e => hd (by rw [e]))]
    · replace hd : (lo8 x) = (lo8 c) := hd
      refine Wp.run ok_lic 1 24 #[.val (.ref b), .val (.int c), .val (.int (Int32.ofNat i0)), .val (.int (Int32.ofNat cs.length)), .val (.int (lo8 c)), .val (.int (Int32.ofNat i))] [(.int (Int32.ofNat i))] rfl ?_
      exact Wp.retI ok_lic (t := .int) rfl (by decide) rfl rfl rfl ⟨by rw [hp, ixF_cons hx, if_pos (lo8_inj (hl.at hx) hc hd)], rfl⟩

set_option maxRecDepth 65536 in
set_option maxHeartbeats 4000000 in
theorem ct_lic {l : Launch} {Z : State} {a0 : Array Value} (G : Gd Z a0) {b : Addr} {cs : List Int32} {c : Int32} {i0 : Nat} (hl : Lat cs) (hc : 0 ≤ c.toInt ∧ c.toInt ≤ 255) (hi : i0 ≤ cs.length) (h : Heap) (A : Ar Z h b .byte (byt cs)) :
    Ct l Z EL1 mt_lic ({ frames := 0, cells := 0, slots := 0, locals := 0 } : Room) #[(.ref b), (.int c), (.int (Int32.ofNat i0)), (.int (Int32.ofNat cs.length))] h [] (fun v h' => v = some (.int (ixF (cs.drop i0) c i0)) ∧ h = h') := by
  refine Ct.of_wp pl_lic G.2.1 (Ls := #[.val (.ref b), .val (.int c), .val (.int (Int32.ofNat i0)), .val (.int (Int32.ofNat cs.length)), .unset, .unset]) rfl ?_
  have h31 : cs.length < 2 ^ 31 := by simpa using A.len
  refine Wp.run ok_lic 5 7 #[.val (.ref b), .val (.int c), .val (.int (Int32.ofNat i0)), .val (.int (Int32.ofNat cs.length)), .val (.int (lo8 c)), .val (.int (Int32.ofNat i0))] [] rfl ?_
  refine Wp.at #[.val (.ref b), .val (.int c), .val (.int (Int32.ofNat i0)), .val (.int (Int32.ofNat cs.length)), .val (.int (lo8 c)), .val (.int (Int32.ofNat i0))] [] ⟨rfl, rfl⟩ ?_
  exact lp_lic G hl hc A h31 (cs.length - i0) i0 (by omega) rfl

abbrev mt_lix : Mth := (⟨"java/lang/StringLatin1", "indexOf", "([BIII)I"⟩, jdk_43_method_22_code, 4, some .int)
def tb_lix : Tab := [(0, .iload_n 1, 1), (1, .invokestatic 88, 3), (4, .ifCond .ne 5, 3), (7, .iconst (-1), 1), (8, .ireturn, 1), (9, .iload_n 2, 1), (10, .iconst 0, 1), (11, .invokestatic 92, 3), (14, .istore_n 2, 1), (15, .iload_n 3, 1), (16, .aload_n 0, 1), (17, .arraylength, 1), (18, .invokestatic 38, 3), (21, .istore_n 3, 1), (22, .iload_n 2, 1), (23, .iload_n 3, 1), (24, .if_icmp .lt 5, 3), (27, .iconst (-1), 1), (28, .ireturn, 1), (29, .aload_n 0, 1), (30, .iload_n 1, 1), (31, .iload_n 2, 1), (32, .iload_n 3, 1), (33, .invokestatic 95, 3), (36, .ireturn, 1)]
theorem ok_lix : TabOk mt_lix.2.1 tb_lix := by
  intro x hx
  have q : tb_lix.all (fun x => decide (decode jdk_43_method_22_code x.1 = .ok x.2)) = true := by decide +kernel
  exact of_decide_eq_true (List.all_eq_true.mp q x hx)
theorem pl_lix : plainFor mt_lix.1 = true := by first | decide +kernel | exact plainFor_of_name (by first | (simp [plainName, overriddenIn]; done) | decide +kernel)
theorem pd_lix : parseMethodDescriptor "([BIII)I" = some ⟨[(.array .byte), .int, .int, .int], some .int⟩ := by decide +kernel

set_option maxRecDepth 65536 in
set_option maxHeartbeats 4000000 in
theorem ct_lix {l : Launch} {Z : State} {a0 : Array Value} (G : Gd Z a0) {b : Addr} {cs : List Int32} {c : Int32} {i0 : Nat} (hl : Lat cs) (hc : 0 ≤ c.toInt ∧ c.toInt ≤ 255) (hi : i0 ≤ cs.length) (h : Heap) (A : Ar Z h b .byte (byt cs)) :
    Ct l Z EL1 mt_lix ({ frames := 1, cells := 0, slots := 0, locals := 17 } : Room) #[(.ref b), (.int c), (.int (Int32.ofNat i0)), (.int (Int32.ofNat cs.length))] h [] (fun v h' => v = some (.int (ixF (cs.drop i0) c i0)) ∧ h = h') := by
  refine Ct.of_wp pl_lix G.2.1 (Ls := #[.val (.ref b), .val (.int c), .val (.int (Int32.ofNat i0)), .val (.int (Int32.ofNat cs.length))]) rfl ?_
  have h31 : cs.length < 2 ^ 31 := by simpa using A.len
  refine Wp.run ok_lix 1 1 #[.val (.ref b), .val (.int c), .val (.int (Int32.ofNat i0)), .val (.int (Int32.ofNat cs.length))] [(.int c)] rfl ?_
  refine Wp.callS ok_lix (argsL := [(.int c)]) (rest := []) (ct_cen G hc h) G.2.1 (G.1 _ (List.mem_of_getElem? (i := 81) rfl)) (G.1 _ (List.mem_of_getElem? (i := 82) rfl)) (G.1 _ (List.mem_of_getElem? (i := 79) rfl)) (G.1 _ (List.mem_of_getElem? (i := 83) rfl)) rfl rfl (by decide) pd_cen rfl rfl (Nat.le_of_ble_eq_true rfl) (Nat.le_of_ble_eq_true rfl) (Nat.le_of_ble_eq_true rfl) (Nat.le_of_ble_eq_true rfl) all0 ?_
  rintro _ _ ⟨rfl, rfl⟩ -
  refine Wp.ifT ok_lix 9 rfl rfl (show ¬ 1 = (0 : Int32) from by decide) (by decide) (by decide) ?_
  refine Wp.run ok_lix 2 11 #[.val (.ref b), .val (.int c), .val (.int (Int32.ofNat i0)), .val (.int (Int32.ofNat cs.length))] [(.int (0 : Int32)), (.int (Int32.ofNat i0))] rfl ?_
  refine Wp.callS ok_lix (argsL := [(.int (Int32.ofNat i0)), (.int (0 : Int32))]) (rest := []) (ct_max G (x := Int32.ofNat i0) (y := 0) h) G.2.1 (G.1 _ (List.mem_of_getElem? (i := 84) rfl)) (G.1 _ (List.mem_of_getElem? (i := 85) rfl)) (G.1 _ (List.mem_of_getElem? (i := 86) rfl)) (G.1 _ (List.mem_of_getElem? (i := 87) rfl)) rfl rfl (by decide) pd_max rfl rfl (Nat.le_of_ble_eq_true rfl) (Nat.le_of_ble_eq_true rfl) (Nat.le_of_ble_eq_true rfl) (Nat.le_of_ble_eq_true rfl) all0 ?_
  rintro _ _ ⟨rfl, rfl⟩ -
  refine Wp.at #[.val (.ref b), .val (.int c), .val (.int (Int32.ofNat i0)), .val (.int (Int32.ofNat cs.length))] [(.int (Int32.ofNat i0))] ⟨rfl, (by rw [if_neg (Int32.ofNat_not_neg (by omega))] <;> rfl)⟩ ?_
  refine Wp.run ok_lix 3 17 #[.val (.ref b), .val (.int c), .val (.int (Int32.ofNat i0)), .val (.int (Int32.ofNat cs.length))] [(.ref b), (.int (Int32.ofNat cs.length))] rfl ?_
  refine Wp.alen ok_lix A rfl rfl ?_
  refine Wp.at #[.val (.ref b), .val (.int c), .val (.int (Int32.ofNat i0)), .val (.int (Int32.ofNat cs.length))] [(.int (Int32.ofNat cs.length)), (.int (Int32.ofNat cs.length))] ⟨rfl, by simp only [List.length_map]⟩ ?_
  refine Wp.callS ok_lix (argsL := [(.int (Int32.ofNat cs.length)), (.int (Int32.ofNat cs.length))]) (rest := []) (ct_min G (x := Int32.ofNat cs.length) (y := Int32.ofNat cs.length) h) G.2.1 (G.1 _ (List.mem_of_getElem? (i := 88) rfl)) (G.1 _ (List.mem_of_getElem? (i := 89) rfl)) (G.1 _ (List.mem_of_getElem? (i := 86) rfl)) (G.1 _ (List.mem_of_getElem? (i := 90) rfl)) rfl rfl (by decide) pd_min rfl rfl (Nat.le_of_ble_eq_true rfl) (Nat.le_of_ble_eq_true rfl) (Nat.le_of_ble_eq_true rfl) (Nat.le_of_ble_eq_true rfl) all0 ?_
  rintro _ _ ⟨rfl, rfl⟩ -
  refine Wp.at #[.val (.ref b), .val (.int c), .val (.int (Int32.ofNat i0)), .val (.int (Int32.ofNat cs.length))] [(.int (Int32.ofNat cs.length))] ⟨rfl, (by rw [ite_self] <;> rfl)⟩ ?_
  refine Wp.run ok_lix 3 24 #[.val (.ref b), .val (.int c), .val (.int (Int32.ofNat i0)), .val (.int (Int32.ofNat cs.length))] [(.int (Int32.ofNat cs.length)), (.int (Int32.ofNat i0))] rfl ?_
  refine Wp.icmp ok_lix 29 rfl rfl (by decide) (by decide) (fun hd => ?_) (fun hd => ?_)
  · replace hd : (Int32.ofNat i0) < (Int32.ofNat cs.length) := hd
    refine Wp.run ok_lix 4 33 #[.val (.ref b), .val (.int c), .val (.int (Int32.ofNat i0)), .val (.int (Int32.ofNat cs.length))] [(.int (Int32.ofNat cs.length)), (.int (Int32.ofNat i0)), (.int c), (.ref b)] rfl ?_
    refine Wp.callS ok_lix (argsL := [(.ref b), (.int c), (.int (Int32.ofNat i0)), (.int (Int32.ofNat cs.length))]) (rest := []) (ct_lic G hl hc hi h A) G.2.1 (G.1 _ (List.mem_of_getElem? (i := 91) rfl)) (G.1 _ (List.mem_of_getElem? (i := 92) rfl)) (G.1 _ (List.mem_of_getElem? (i := 79) rfl)) (G.1 _ (List.mem_of_getElem? (i := 93) rfl)) rfl rfl (by decide) pd_lic rfl rfl (Nat.le_of_ble_eq_true rfl) (Nat.le_of_ble_eq_true rfl) (Nat.le_of_ble_eq_true rfl) (Nat.le_of_ble_eq_true rfl) all0 ?_
    rintro _ _ ⟨rfl, rfl⟩ -
    exact Wp.retI ok_lix (t := .int) rfl (by decide) rfl rfl rfl ⟨rfl, rfl⟩
  · replace hd : ¬ (Int32.ofNat i0) < (Int32.ofNat cs.length) := hd
    refine Wp.run ok_lix 1 28 #[.val (.ref b), .val (.int c), .val (.int (Int32.ofNat i0)), .val (.int (Int32.ofNat cs.length))] [(.int (-1 : Int32))] rfl ?_
    exact Wp.retI ok_lix (t := .int) rfl (by decide) rfl rfl rfl ⟨by rw [List.drop_eq_nil_of_le (Nat.le_of_not_lt fun z => hd ((n_lt (by omega) h31).mpr z))]; rfl, rfl⟩

abbrev mt_ix2 : Mth := (⟨"java/lang/String", "indexOf", "(II)I"⟩, jdk_42_method_80_code, 3, some .int)
def tb_ix2 : Tab := [(0, .aload_n 0, 1), (1, .invokevirtual 492, 3), (4, .ifCond .eq 19, 3), (7, .aload_n 0, 1), (8, .getfield 9, 3), (11, .iload_n 1, 1), (12, .iload_n 2, 1), (13, .aload_n 0, 1), (14, .invokevirtual 505, 3), (17, .invokestatic 637, 3), (20, .goto 16, 3), (23, .aload_n 0, 1), (24, .getfield 9, 3), (27, .iload_n 1, 1), (28, .iload_n 2, 1), (29, .aload_n 0, 1), (30, .invokevirtual 505, 3), (33, .invokestatic 640, 3), (36, .ireturn, 1)]
theorem ok_ix2 : TabOk mt_ix2.2.1 tb_ix2 := by
  intro x hx
  have q : tb_ix2.all (fun x => decide (decode jdk_42_method_80_code x.1 = .ok x.2)) = true := by decide +kernel
  exact of_decide_eq_true (List.all_eq_true.mp q x hx)
theorem pl_ix2 : plainFor mt_ix2.1 = true := by first | decide +kernel | exact plainFor_of_name (by first | (simp [plainName, overriddenIn]; done) | decide +kernel)
theorem pd_ix2 : parseMethodDescriptor "(II)I" = some ⟨[.int, .int], some .int⟩ := by decide +kernel

set_option maxRecDepth 65536 in
set_option maxHeartbeats 4000000 in
theorem ct_ix2 {l : Launch} {Z : State} {a0 : Array Value} (G : Gd Z a0) {a : Addr} {cs : List Int32} {c : Int32} {i0 : Nat} (hc : 0 ≤ c.toInt ∧ c.toInt ≤ 255) (hi : i0 ≤ cs.length) (h : Heap) (S1 : Str Z h a cs) :
    Ct l Z EL1 mt_ix2 ({ frames := 2, cells := 0, slots := 0, locals := 32 } : Room) #[(.ref a), (.int c), (.int (Int32.ofNat i0))] h [] (fun v h' => v = some (.int (ixF (cs.drop i0) c i0)) ∧ h = h') := by
  refine Ct.of_wp pl_ix2 G.2.1 (Ls := #[.val (.ref a), .val (.int c), .val (.int (Int32.ofNat i0))]) rfl ?_
  refine Wp.run ok_ix2 1 1 #[.val (.ref a), .val (.int c), .val (.int (Int32.ofNat i0))] [(.ref a)] rfl ?_
  refine Wp.callV ok_ix2 (a := a) (argsL := []) (rest := []) (ct_isl G h S1.cod) S1.exa G.2.1 (G.1 _ (List.mem_of_getElem? (i := 62) rfl)) (G.1 _ (List.mem_of_getElem? (i := 63) rfl)) (G.1 _ (List.mem_of_getElem? (i := 65) rfl)) (G.1 _ (List.mem_of_getElem? (i := 64) rfl)) (G.1 _ (List.mem_of_getElem? (i := 11) rfl)) (G.1 _ (List.mem_of_getElem? (i := 66) rfl)) rfl rfl (by decide) pd_isl rfl rfl (Nat.le_of_ble_eq_true rfl) (Nat.le_of_ble_eq_true rfl) (Nat.le_of_ble_eq_true rfl) (Nat.le_of_ble_eq_true rfl) all0 ?_
  rintro _ _ ⟨rfl, rfl⟩ -
  refine Wp.ifF ok_ix2 rfl rfl (show ¬ 1 = (0 : Int32) from by decide) ?_
  refine Wp.run ok_ix2 1 8 #[.val (.ref a), .val (.int c), .val (.int (Int32.ofNat i0))] [(.ref a)] rfl ?_
  obtain ⟨b, V, A⟩ := S1.val
  refine Wp.getF ok_ix2 V (G.1 _ (List.mem_of_getElem? (i := 37) rfl)) Via.refl rfl rfl ?_
  refine Wp.run ok_ix2 3 14 #[.val (.ref a), .val (.int c), .val (.int (Int32.ofNat i0))] [(.ref a), (.int (Int32.ofNat i0)), (.int c), (.ref b)] rfl ?_
  refine Wp.callV ok_ix2 (a := a) (argsL := []) (rest := [(.int (Int32.ofNat i0)), (.int c), (.ref b)]) (ct_len G h S1) S1.exa G.2.1 (G.1 _ (List.mem_of_getElem? (i := 67) rfl)) (G.1 _ (List.mem_of_getElem? (i := 68) rfl)) (G.1 _ (List.mem_of_getElem? (i := 70) rfl)) (G.1 _ (List.mem_of_getElem? (i := 69) rfl)) (G.1 _ (List.mem_of_getElem? (i := 11) rfl)) (G.1 _ (List.mem_of_getElem? (i := 71) rfl)) rfl rfl (by decide) pd_len rfl rfl (Nat.le_of_ble_eq_true rfl) (Nat.le_of_ble_eq_true rfl) (Nat.le_of_ble_eq_true rfl) (Nat.le_of_ble_eq_true rfl) all0 ?_
  rintro _ _ ⟨rfl, rfl⟩ -
  refine Wp.callS ok_ix2 (argsL := [(.ref b), (.int c), (.int (Int32.ofNat i0)), (.int (Int32.ofNat cs.length))]) (rest := []) (ct_lix G S1.lat hc hi h A) G.2.1 (G.1 _ (List.mem_of_getElem? (i := 77) rfl)) (G.1 _ (List.mem_of_getElem? (i := 78) rfl)) (G.1 _ (List.mem_of_getElem? (i := 79) rfl)) (G.1 _ (List.mem_of_getElem? (i := 80) rfl)) rfl rfl (by decide) pd_lix rfl rfl (Nat.le_of_ble_eq_true rfl) (Nat.le_of_ble_eq_true rfl) (Nat.le_of_ble_eq_true rfl) (Nat.le_of_ble_eq_true rfl) all0 ?_
  rintro _ _ ⟨rfl, rfl⟩ -
  refine Wp.run ok_ix2 1 36 #[.val (.ref a), .val (.int c), .val (.int (Int32.ofNat i0))] [(.int (ixF (cs.drop i0) c i0))] rfl ?_
  exact Wp.retI ok_ix2 (t := .int) rfl (by decide) rfl rfl rfl ⟨rfl, rfl⟩

abbrev mt_ix1 : Mth := (⟨"java/lang/String", "indexOf", "(I)I"⟩, jdk_42_method_79_code, 2, some .int)
def tb_ix1 : Tab := [(0, .aload_n 0, 1), (1, .iload_n 1, 1), (2, .iconst 0, 1), (3, .invokevirtual 633, 3), (6, .ireturn, 1)]
theorem ok_ix1 : TabOk mt_ix1.2.1 tb_ix1 := by
  intro x hx
  have q : tb_ix1.all (fun x => decide (decode jdk_42_method_79_code x.1 = .ok x.2)) = true := by decide +kernel
  exact of_decide_eq_true (List.all_eq_true.mp q x hx)
theorem pl_ix1 : plainFor mt_ix1.1 = true := by first | decide +kernel | exact plainFor_of_name (by first | (simp [plainName, overriddenIn]; done) | decide +kernel)
theorem pd_ix1 : parseMethodDescriptor "(I)I" = some ⟨[.int], some .int⟩ := by decide +kernel

set_option maxRecDepth 65536 in
set_option maxHeartbeats 4000000 in
theorem ct_ix1 {l : Launch} {Z : State} {a0 : Array Value} (G : Gd Z a0) {a : Addr} {cs : List Int32} {c : Int32} (hc : 0 ≤ c.toInt ∧ c.toInt ≤ 255) (h : Heap) (S1 : Str Z h a cs) :
    Ct l Z EL1 mt_ix1 ({ frames := 3, cells := 0, slots := 0, locals := 46 } : Room) #[(.ref a), (.int c)] h [] (fun v h' => v = some (.int (ixF cs c 0)) ∧ h = h') := by
  refine Ct.of_wp pl_ix1 G.2.1 (Ls := #[.val (.ref a), .val (.int c)]) rfl ?_
  refine Wp.run ok_ix1 3 3 #[.val (.ref a), .val (.int c)] [(.int (0 : Int32)), (.int c), (.ref a)] rfl ?_
  refine Wp.callV ok_ix1 (a := a) (argsL := [(.int c), (.int (0 : Int32))]) (rest := []) (ct_ix2 G (i0 := 0) hc (Nat.zero_le _) h S1) S1.exa G.2.1 (G.1 _ (List.mem_of_getElem? (i := 57) rfl)) (G.1 _ (List.mem_of_getElem? (i := 58) rfl)) (G.1 _ (List.mem_of_getElem? (i := 60) rfl)) (G.1 _ (List.mem_of_getElem? (i := 59) rfl)) (G.1 _ (List.mem_of_getElem? (i := 11) rfl)) (G.1 _ (List.mem_of_getElem? (i := 61) rfl)) rfl rfl (by decide) pd_ix2 rfl rfl (Nat.le_of_ble_eq_true rfl) (Nat.le_of_ble_eq_true rfl) (Nat.le_of_ble_eq_true rfl) (Nat.le_of_ble_eq_true rfl) all0 ?_
  rintro _ _ ⟨rfl, rfl⟩ -
  exact Wp.retI ok_ix1 (t := .int) rfl (by decide) rfl rfl rfl ⟨rfl, rfl⟩
end Jvm.Pilot.@@N@@
namespace Jvm.Pilot.@@N@@
open Jvm Jvm.ClassFile Sem Op Lib Jvm.Free Jvm.Stand Jvm.LawKit Jvm.RoadKit Bundle Jvm.Pilot.@@N@@.Jvm.D Jvm.Pilot.@@N@@.Kw
abbrev mt_abi : Mth := (⟨"java/lang/AbstractStringBuilder", "<init>", "(I)V"⟩, jdk_68_method_2_code, 2, none)
def tb_abi : Tab := [(0, .aload_n 0, 1), (1, .invokespecial 3, 3), (4, .getstatic 18, 3), (7, .ifCond .eq 18, 3), (10, .aload_n 0, 1), (11, .iload_n 1, 1), (12, .newarray .byte, 2), (14, .putfield 15, 3), (17, .aload_n 0, 1), (18, .iconst 0, 1), (19, .putfield 22, 3), (22, .goto 16, 3), (25, .aload_n 0, 1), (26, .iload_n 1, 1), (27, .invokestatic 26, 3), (30, .putfield 15, 3), (33, .aload_n 0, 1), (34, .iconst 1, 1), (35, .putfield 22, 3), (38, .return_, 1)]
theorem ok_abi : TabOk mt_abi.2.1 tb_abi := by
  intro x hx
  have q : tb_abi.all (fun x => decide (decode jdk_68_method_2_code x.1 = .ok x.2)) = true := by decide +kernel
  exact of_decide_eq_true (List.all_eq_true.mp q x hx)
theorem pl_abi : plainFor mt_abi.1 = true := by first | decide +kernel | exact plainFor_of_name (by first | (simp [plainName, overriddenIn]; done) | decide +kernel)
theorem pd_abi : parseMethodDescriptor "(I)V" = some ⟨[.int], none⟩ := by decide +kernel

set_option maxRecDepth 65536 in
set_option maxHeartbeats 4000000 in
theorem ct_abi {l : Launch} {Z : State} {a0 : Array Value} (G : Gd Z a0) {a : Addr} (h : Heap) (X0 : Exa Z h a "java/lang/StringBuilder") (F1 : Fld Z h a "java/lang/AbstractStringBuilder" "value" "[B" .null) (F2 : Fld Z h a "java/lang/AbstractStringBuilder" "coder" "B" (.int 0)) (F3 : Fld Z h a "java/lang/AbstractStringBuilder" "count" "I" (.int 0)) :
    Ct3 l Z EL1 mt_abi ({ frames := 1, cells := 1, slots := 16, locals := 12 } : Room) #[(.ref a), (.int 16)] h [a] (fun v h' Wo => ∃ b, v = none ∧ Wo = [b, a] ∧ Keep h h' [a] ∧ h.size ≤ b ∧ Bld Z h' a b []) := by
  refine Ct.of_wp pl_abi G.2.1 (Ls := #[.val (.ref a), .val (.int 16)]) rfl ?_
  refine Wp.run ok_abi 1 1 #[.val (.ref a), .val (.int 16)] [(.ref a)] rfl ?_
  refine Wp.initO ok_abi (G.1 _ (List.mem_of_getElem? (i := 115) rfl)) (G.1 _ (List.mem_of_getElem? (i := 21) rfl)) (G.1 _ (List.mem_of_getElem? (i := 22) rfl)) rfl rfl rfl (Nat.le_of_ble_eq_true rfl) (Nat.le_of_ble_eq_true rfl) ?_
  obtain ⟨vC, fC, nC⟩ := G.2.2.1
  refine Wp.getS ok_abi fC (G.1 _ (List.mem_of_getElem? (i := 116) rfl)) Via.refl rfl ?_
  refine Wp.ifF ok_abi rfl rfl (show ¬ vC = (0 : Int32) from nC) ?_
  refine Wp.run ok_abi 2 12 #[.val (.ref a), .val (.int 16)] [(.int 16), (.ref a)] rfl ?_
  refine Wp.newP ok_abi (len := 16) (cap := 16) (G.1 _ (List.mem_of_getElem? (i := 28) rfl)) rfl rfl rfl (Nat.le_of_ble_eq_true rfl) (Nat.le_of_ble_eq_true rfl) (Nat.le_of_ble_eq_true rfl) (Nat.le_of_ble_eq_true rfl) ?_
  intro h1 E1 A1
  refine Wp.putF ok_abi (ty := (.array .byte)) (F1.ext E1) (X0.ext E1) (List.mem_of_getElem? (i := 1) rfl) (G.1 _ (List.mem_of_getElem? (i := 117) rfl)) Via.refl (Or.inl (G.1 _ (List.mem_of_getElem? (i := 118) rfl))) (G.1 _ (List.mem_of_getElem? (i := 104) rfl)) (by decide) rfl rfl rfl ?_
  intro h2 w2
  refine Wp.run ok_abi 2 19 #[.val (.ref a), .val (.int 16)] [(.int (0 : Int32)), (.ref a)] rfl ?_
  refine Wp.putF ok_abi (ty := .byte) ((F2.ext E1).other w2 (Or.inr (slot_ne (Or.inl (G.1 _ (List.mem_of_getElem? (i := 120) rfl))) (Or.inl (G.1 _ (List.mem_of_getElem? (i := 118) rfl))) (by decide) (t := .byte) (t' := (.array .byte)) (by decide) (by decide)))) ((X0.ext E1).wr w2) (List.mem_of_getElem? (i := 1) rfl) (G.1 _ (List.mem_of_getElem? (i := 119) rfl)) Via.refl (Or.inl (G.1 _ (List.mem_of_getElem? (i := 120) rfl))) (G.1 _ (List.mem_of_getElem? (i := 104) rfl)) (by decide) rfl rfl rfl ?_
  intro h3 w3
  refine Wp.run ok_abi 1 38 #[.val (.ref a), .val (.int 16)] [] rfl ?_
  have hda : h.size ≠ a := Nat.ne_of_gt X0.lt
  exact Wp.ret0 ok_abi rfl rfl rfl ⟨_, rfl, rfl, (((Keep.refl h [a]).ext E1).trans (wr_keep w2) (fun x hx => Or.inl hx)).trans (wr_keep w3) (fun x hx => Or.inl hx), Nat.le_refl _, Lat.nil, Nat.zero_le _, ((X0.ext E1).wr w2).wr w3, ((F1.ext E1).same w2).other w3 (Or.inr (slot_ne (Or.inl (G.1 _ (List.mem_of_getElem? (i := 118) rfl))) (Or.inl (G.1 _ (List.mem_of_getElem? (i := 120) rfl))) (by decide) (t := (.array .byte)) (t' := .byte) (by decide) (by decide))), ((F2.ext E1).other w2 (Or.inr (slot_ne (Or.inl (G.1 _ (List.mem_of_getElem? (i := 120) rfl))) (Or.inl (G.1 _ (List.mem_of_getElem? (i := 118) rfl))) (by decide) (t := .byte) (t' := (.array .byte)) (by decide) (by decide)))).same w3, ((F3.ext E1).other w2 (Or.inr (slot_ne (Or.inl (G.1 _ (List.mem_of_getElem? (i := 134) rfl))) (Or.inl (G.1 _ (List.mem_of_getElem? (i := 118) rfl))) (by decide) (t := .int) (t' := (.array .byte)) (by decide) (by decide)))).other w3 (Or.inr (slot_ne (Or.inl (G.1 _ (List.mem_of_getElem? (i := 134) rfl))) (Or.inl (G.1 _ (List.mem_of_getElem? (i := 120) rfl))) (by decide) (t := .int) (t' := .byte) (by decide) (by decide))), (A1.other w2 hda).other w3 hda⟩

abbrev mt_sbi : Mth := (⟨"java/lang/StringBuilder", "<init>", "()V"⟩, jdk_67_method_1_code, 1, none)
def tb_sbi : Tab := [(0, .aload_n 0, 1), (1, .bipush 16, 2), (3, .invokespecial 1, 3), (6, .return_, 1)]
theorem ok_sbi : TabOk mt_sbi.2.1 tb_sbi := by
  intro x hx
  have q : tb_sbi.all (fun x => decide (decode jdk_67_method_1_code x.1 = .ok x.2)) = true := by decide +kernel
  exact of_decide_eq_true (List.all_eq_true.mp q x hx)
theorem pl_sbi : plainFor mt_sbi.1 = true := by first | decide +kernel | exact plainFor_of_name (by first | (simp [plainName, overriddenIn]; done) | decide +kernel)
theorem pd_sbi : parseMethodDescriptor "()V" = some ⟨[], none⟩ := by decide +kernel

set_option maxRecDepth 65536 in
set_option maxHeartbeats 4000000 in
theorem ct_sbi {l : Launch} {Z : State} {a0 : Array Value} (G : Gd Z a0) {a : Addr} (h : Heap) (X0 : Exa Z h a "java/lang/StringBuilder") (F1 : Fld Z h a "java/lang/AbstractStringBuilder" "value" "[B" .null) (F2 : Fld Z h a "java/lang/AbstractStringBuilder" "coder" "B" (.int 0)) (F3 : Fld Z h a "java/lang/AbstractStringBuilder" "count" "I" (.int 0)) :
    Ct3 l Z EL1 mt_sbi ({ frames := 2, cells := 1, slots := 16, locals := 25 } : Room) #[(.ref a)] h [a] (fun v h' Wo => ∃ b, v = none ∧ Wo = [b, a] ∧ Keep h h' [a] ∧ h.size ≤ b ∧ Bld Z h' a b []) := by
  refine Ct.of_wp pl_sbi G.2.1 (Ls := #[.val (.ref a)]) rfl ?_
  refine Wp.run ok_sbi 2 3 #[.val (.ref a)] [(.int (16 : Int32)), (.ref a)] rfl ?_
  refine Wp.callI3 ok_sbi (a := a) (argsL := [(.int (16 : Int32))]) (rest := []) (ct_abi G h X0 F1 F2 F3) G.2.1 (G.1 _ (List.mem_of_getElem? (i := 109) rfl)) (G.1 _ (List.mem_of_getElem? (i := 110) rfl)) (G.1 _ (List.mem_of_getElem? (i := 113) rfl)) (G.1 _ (List.mem_of_getElem? (i := 114) rfl)) rfl rfl rfl rfl (by decide) pd_abi rfl rfl (Nat.le_of_ble_eq_true rfl) (Nat.le_of_ble_eq_true rfl) (Nat.le_of_ble_eq_true rfl) (Nat.le_of_ble_eq_true rfl) (allS (List.mem_of_getElem? (i := 0) rfl) all0) ?_
  rintro _ h1 _ ⟨b, rfl, rfl, K1, hb, B1⟩ -
  refine Wp.up (W' := [b, a]) (Nat.le_refl _) (Nat.le_refl _) (Nat.le_of_ble_eq_true rfl) (Nat.le_of_ble_eq_true rfl) (allS (List.mem_of_getElem? (i := 0) rfl) (allS (List.mem_of_getElem? (i := 1) rfl) all0)) ?_
  exact Wp.ret0 ok_sbi rfl rfl rfl ⟨b, rfl, rfl, K1, hb, B1⟩

abbrev mt_eci : Mth := (⟨"java/lang/AbstractStringBuilder", "ensureCapacityInternal", "(I)V"⟩, jdk_68_method_9_code, 3, none)
def tb_eci : Tab := [(0, .aload_n 0, 1), (1, .getfield 15, 3), (4, .arraylength, 1), (5, .aload_n 0, 1), (6, .getfield 22, 3), (9, .ishr, 1), (10, .istore_n 2, 1), (11, .iload_n 1, 1), (12, .iload_n 2, 1), (13, .isub, 1), (14, .ifCond .le 24, 3), (17, .aload_n 0, 1), (18, .aload_n 0, 1), (19, .getfield 15, 3), (22, .aload_n 0, 1), (23, .iload_n 1, 1), (24, .invokevirtual 104, 3), (27, .aload_n 0, 1), (28, .getfield 22, 3), (31, .ishl, 1), (32, .invokestatic 108, 3), (35, .putfield 15, 3), (38, .return_, 1)]
theorem ok_eci : TabOk mt_eci.2.1 tb_eci := by
  intro x hx
  have q : tb_eci.all (fun x => decide (decode jdk_68_method_9_code x.1 = .ok x.2)) = true := by decide +kernel
  exact of_decide_eq_true (List.all_eq_true.mp q x hx)
theorem pl_eci : plainFor mt_eci.1 = true := by first | decide +kernel | exact plainFor_of_name (by first | (simp [plainName, overriddenIn]; done) | decide +kernel)
theorem pd_eci : parseMethodDescriptor "(I)V" = some ⟨[.int], none⟩ := by decide +kernel

set_option maxRecDepth 65536 in
set_option maxHeartbeats 4000000 in
theorem ct_eci {l : Launch} {Z : State} {a0 : Array Value} (G : Gd Z a0) {a b : Addr} {cs : List Int32} {m : Nat} (hm : m ≤ 16) (h : Heap) (B0 : Bld Z h a b cs) :
    Ct l Z EL1 mt_eci ({ frames := 0, cells := 0, slots := 0, locals := 0 } : Room) #[(.ref a), (.int (Int32.ofNat m))] h [] (fun v h' => v = none ∧ h = h') := by
  refine Ct.of_wp pl_eci G.2.1 (Ls := #[.val (.ref a), .val (.int (Int32.ofNat m)), .unset]) rfl ?_
  obtain ⟨q1, q2, q3, q4, q5, q6, q7⟩ := B0
  refine Wp.run ok_eci 1 1 #[.val (.ref a), .val (.int (Int32.ofNat m)), .unset] [(.ref a)] rfl ?_
  refine Wp.getF ok_eci q4 (G.1 _ (List.mem_of_getElem? (i := 117) rfl)) Via.refl rfl rfl ?_
  refine Wp.alen ok_eci q7 rfl rfl ?_
  refine Wp.run ok_eci 1 6 #[.val (.ref a), .val (.int (Int32.ofNat m)), .unset] [(.ref a), (.int (Int32.ofNat ((byt cs ++ List.replicate (16 - cs.length) (Value.int 0)).length)))] rfl ?_
  refine Wp.getF ok_eci q5 (G.1 _ (List.mem_of_getElem? (i := 119) rfl)) Via.refl rfl rfl ?_
  refine Wp.run ok_eci 2 11 #[.val (.ref a), .val (.int (Int32.ofNat m)), .val (.int ((Int32.ofNat ((byt cs ++ List.replicate (16 - cs.length) (Value.int 0)).length)) >>> (0 &&& 31)))] [] rfl ?_
  have e1 : Int32.ofNat (byt cs ++ List.replicate (16 - cs.length) (Value.int 0)).length >>> ((0 : Int32) &&& 31) = Int32.ofNat 16 := by rw [shr0]; congr 1; simp; omega
  refine Wp.at #[.val (.ref a), .val (.int (Int32.ofNat m)), .val (.int (Int32.ofNat 16))] [] ⟨(by rw [e1] <;> rfl), rfl⟩ ?_
  refine Wp.run ok_eci 3 14 #[.val (.ref a), .val (.int (Int32.ofNat m)), .val (.int (Int32.ofNat 16))] [(.int ((Int32.ofNat m) - (Int32.ofNat 16)))] rfl ?_
  refine Wp.ifT ok_eci 38 rfl rfl (show ¬ (0 : Int32) < ((Int32.ofNat m) - (Int32.ofNat 16)) from n_subneg hm (by decide)) (by decide) (by decide) ?_
  exact Wp.ret0 ok_eci rfl rfl rfl ⟨rfl, rfl⟩

abbrev mt_inf : Mth := (⟨"java/lang/AbstractStringBuilder", "inflateIfNeededFor", "(Ljava/lang/String;)V"⟩, jdk_68_method_71_code, 2, none)
def tb_inf : Tab := [(0, .getstatic 18, 3), (3, .ifCond .eq 18, 3), (6, .aload_n 0, 1), (7, .getfield 22, 3), (10, .aload_n 1, 1), (11, .invokevirtual 40, 3), (14, .if_icmp .eq 7, 3), (17, .aload_n 0, 1), (18, .invokevirtual 195, 3), (21, .return_, 1)]
theorem ok_inf : TabOk mt_inf.2.1 tb_inf := by
  intro x hx
  have q : tb_inf.all (fun x => decide (decode jdk_68_method_71_code x.1 = .ok x.2)) = true := by decide +kernel
  exact of_decide_eq_true (List.all_eq_true.mp q x hx)
theorem pl_inf : plainFor mt_inf.1 = true := by first | decide +kernel | exact plainFor_of_name (by first | (simp [plainName, overriddenIn]; done) | decide +kernel)
theorem pd_inf : parseMethodDescriptor "(Ljava/lang/String;)V" = some ⟨[(.object "java/lang/String")], none⟩ := by decide +kernel

set_option maxRecDepth 65536 in
set_option maxHeartbeats 4000000 in
theorem ct_inf {l : Launch} {Z : State} {a0 : Array Value} (G : Gd Z a0) {a b s : Addr} {cs ds : List Int32} (h : Heap) (B0 : Bld Z h a b cs) (S1 : Str Z h s ds) :
    Ct l Z EL1 mt_inf ({ frames := 1, cells := 0, slots := 0, locals := 13 } : Room) #[(.ref a), (.ref s)] h [] (fun v h' => v = none ∧ h = h') := by
  refine Ct.of_wp pl_inf G.2.1 (Ls := #[.val (.ref a), .val (.ref s)]) rfl ?_
  obtain ⟨q1, q2, q3, q4, q5, q6, q7⟩ := B0
  obtain ⟨vC, fC, nC⟩ := G.2.2.1
  refine Wp.getS ok_inf fC (G.1 _ (List.mem_of_getElem? (i := 116) rfl)) Via.refl rfl ?_
  refine Wp.ifF ok_inf rfl rfl (show ¬ vC = (0 : Int32) from nC) ?_
  refine Wp.run ok_inf 1 7 #[.val (.ref a), .val (.ref s)] [(.ref a)] rfl ?_
  refine Wp.getF ok_inf q5 (G.1 _ (List.mem_of_getElem? (i := 119) rfl)) Via.refl rfl rfl ?_
  refine Wp.run ok_inf 1 11 #[.val (.ref a), .val (.ref s)] [(.ref s), (.int 0)] rfl ?_
  refine Wp.callV ok_inf (a := s) (argsL := []) (rest := [(.int 0)]) (ct_cod G (x := 0) rfl h S1.cod) S1.exa G.2.1 (G.1 _ (List.mem_of_getElem? (i := 150) rfl)) (G.1 _ (List.mem_of_getElem? (i := 73) rfl)) (G.1 _ (List.mem_of_getElem? (i := 75) rfl)) (G.1 _ (List.mem_of_getElem? (i := 74) rfl)) (G.1 _ (List.mem_of_getElem? (i := 11) rfl)) (G.1 _ (List.mem_of_getElem? (i := 76) rfl)) rfl rfl (by decide) pd_cod rfl rfl (Nat.le_of_ble_eq_true rfl) (Nat.le_of_ble_eq_true rfl) (Nat.le_of_ble_eq_true rfl) (Nat.le_of_ble_eq_true rfl) all0 ?_
  rintro _ _ ⟨rfl, rfl⟩ -
  refine Wp.icmpT ok_inf 21 rfl rfl (show 0 = 0 from rfl) (by decide) (by decide) ?_
  exact Wp.ret0 ok_inf rfl rfl rfl ⟨rfl, rfl⟩

abbrev mt_gby : Mth := (⟨"java/lang/String", "getBytes", "([BIB)V"⟩, jdk_42_method_147_code, 4, none)
def tb_gby : Tab := [(0, .aload_n 0, 1), (1, .invokevirtual 335, 3), (4, .iload_n 3, 1), (5, .if_icmp .ne 23, 3), (8, .aload_n 0, 1), (9, .getfield 9, 3), (12, .iconst 0, 1), (13, .aload_n 1, 1), (14, .iload_n 2, 1), (15, .iload_n 3, 1), (16, .ishl, 1), (17, .aload_n 0, 1), (18, .getfield 9, 3), (21, .arraylength, 1), (22, .invokestatic 212, 3), (25, .goto 18, 3), (28, .aload_n 0, 1), (29, .getfield 9, 3), (32, .iconst 0, 1), (33, .aload_n 1, 1), (34, .iload_n 2, 1), (35, .aload_n 0, 1), (36, .getfield 9, 3), (39, .arraylength, 1), (40, .invokestatic 106, 3), (43, .return_, 1)]
theorem ok_gby : TabOk mt_gby.2.1 tb_gby := by
  intro x hx
  have q : tb_gby.all (fun x => decide (decode jdk_42_method_147_code x.1 = .ok x.2)) = true := by decide +kernel
  exact of_decide_eq_true (List.all_eq_true.mp q x hx)
theorem pl_gby : plainFor mt_gby.1 = true := by first | decide +kernel | exact plainFor_of_name (by first | (simp [plainName, overriddenIn]; done) | decide +kernel)
theorem pd_gby : parseMethodDescriptor "([BIB)V" = some ⟨[(.array .byte), .int, .byte], none⟩ := by decide +kernel

set_option maxRecDepth 65536 in
set_option maxHeartbeats 4000000 in
theorem ct_gby {l : Launch} {Z : State} {a0 : Array Value} (G : Gd Z a0) {s b : Addr} {ds : List Int32} {vd : List Value} {i : Nat} (hi : i + (byt ds).length ≤ vd.length) (h : Heap) (S1 : Str Z h s ds) (B1 : Ar Z h b .byte vd) :
    Ct l Z EL1 mt_gby ({ frames := 1, cells := 0, slots := 0, locals := 18 } : Room) #[(.ref s), (.ref b), (.int (Int32.ofNat i)), (.int 0)] h [b] (fun v h' => v = none ∧ Keep h h' [b] ∧ Ar Z h' b .byte (vd.take i ++ ((byt ds).drop 0).take (byt ds).length ++ vd.drop (i + (byt ds).length))) := by
  refine Ct.of_wp pl_gby G.2.1 (Ls := #[.val (.ref s), .val (.ref b), .val (.int (Int32.ofNat i)), .val (.int 0)]) rfl ?_
  refine Wp.run ok_gby 1 1 #[.val (.ref s), .val (.ref b), .val (.int (Int32.ofNat i)), .val (.int 0)] [(.ref s)] rfl ?_
  refine Wp.callV ok_gby (a := s) (argsL := []) (rest := []) (ct_cod G (x := 0) rfl h S1.cod) S1.exa G.2.1 (G.1 _ (List.mem_of_getElem? (i := 72) rfl)) (G.1 _ (List.mem_of_getElem? (i := 73) rfl)) (G.1 _ (List.mem_of_getElem? (i := 75) rfl)) (G.1 _ (List.mem_of_getElem? (i := 74) rfl)) (G.1 _ (List.mem_of_getElem? (i := 11) rfl)) (G.1 _ (List.mem_of_getElem? (i := 76) rfl)) rfl rfl (by decide) pd_cod rfl rfl (Nat.le_of_ble_eq_true rfl) (Nat.le_of_ble_eq_true rfl) (Nat.le_of_ble_eq_true rfl) (Nat.le_of_ble_eq_true rfl) all0 ?_
  rintro _ _ ⟨rfl, rfl⟩ -
  refine Wp.run ok_gby 1 5 #[.val (.ref s), .val (.ref b), .val (.int (Int32.ofNat i)), .val (.int 0)] [(.int 0), (.int 0)] rfl ?_
  refine Wp.icmpF ok_gby rfl rfl (show 0 = 0 from rfl) ?_
  refine Wp.run ok_gby 1 9 #[.val (.ref s), .val (.ref b), .val (.int (Int32.ofNat i)), .val (.int 0)] [(.ref s)] rfl ?_
  obtain ⟨sv, V1, A1⟩ := S1.val
  refine Wp.getF ok_gby V1 (G.1 _ (List.mem_of_getElem? (i := 37) rfl)) Via.refl rfl rfl ?_
  refine Wp.run ok_gby 6 18 #[.val (.ref s), .val (.ref b), .val (.int (Int32.ofNat i)), .val (.int 0)] [(.ref s), (.int ((Int32.ofNat i) <<< (0 &&& 31))), (.ref b), (.int (0 : Int32)), (.ref sv)] rfl ?_
  refine Wp.at #[.val (.ref s), .val (.ref b), .val (.int (Int32.ofNat i)), .val (.int 0)] [(.ref s), (.int (Int32.ofNat i)), (.ref b), (.int (0 : Int32)), (.ref sv)] ⟨rfl, (by rw [shl0] <;> rfl)⟩ ?_
  refine Wp.getF ok_gby V1 (G.1 _ (List.mem_of_getElem? (i := 37) rfl)) Via.refl rfl rfl ?_
  refine Wp.alen ok_gby A1 rfl rfl ?_
  refine Wp.acopy ok_gby (i := 0) (j := i) (len := (byt ds).length) A1 B1 (List.mem_of_getElem? (i := 0) rfl) rfl rfl rfl rfl (by omega) hi (G.1 _ (List.mem_of_getElem? (i := 156) rfl)) (G.1 _ (List.mem_of_getElem? (i := 159) rfl)) (G.1 _ (List.mem_of_getElem? (i := 157) rfl)) (G.1 _ (List.mem_of_getElem? (i := 158) rfl)) rfl rfl rfl (Nat.le_of_ble_eq_true rfl) (Nat.le_of_ble_eq_true rfl) ?_
  intro h1 K1 B2
  refine Wp.run ok_gby 1 43 #[.val (.ref s), .val (.ref b), .val (.int (Int32.ofNat i)), .val (.int 0)] [] rfl ?_
  exact Wp.ret0 ok_gby rfl rfl rfl ⟨rfl, K1, B2⟩

abbrev mt_psa : Mth := (⟨"java/lang/AbstractStringBuilder", "putStringAt", "(ILjava/lang/String;)V"⟩, jdk_68_method_73_code, 3, none)
def tb_psa : Tab := [(0, .aload_n 0, 1), (1, .aload_n 2, 1), (2, .invokevirtual 397, 3), (5, .aload_n 2, 1), (6, .aload_n 0, 1), (7, .getfield 15, 3), (10, .iload_n 1, 1), (11, .aload_n 0, 1), (12, .getfield 22, 3), (15, .invokevirtual 399, 3), (18, .return_, 1)]
theorem ok_psa : TabOk mt_psa.2.1 tb_psa := by
  intro x hx
  have q : tb_psa.all (fun x => decide (decode jdk_68_method_73_code x.1 = .ok x.2)) = true := by decide +kernel
  exact of_decide_eq_true (List.all_eq_true.mp q x hx)
theorem pl_psa : plainFor mt_psa.1 = true := by first | decide +kernel | exact plainFor_of_name (by first | (simp [plainName, overriddenIn]; done) | decide +kernel)
theorem pd_psa : parseMethodDescriptor "(ILjava/lang/String;)V" = some ⟨[.int, (.object "java/lang/String")], none⟩ := by decide +kernel

set_option maxRecDepth 65536 in
set_option maxHeartbeats 4000000 in
theorem ct_psa {l : Launch} {Z : State} {a0 : Array Value} (G : Gd Z a0) {a b s : Addr} {cs ds : List Int32} (hl : cs.length + ds.length ≤ 16) (h : Heap) (B0 : Bld Z h a b cs) (S1 : Str Z h s ds) :
    Ct l Z EL1 mt_psa ({ frames := 2, cells := 0, slots := 0, locals := 33 } : Room) #[(.ref a), (.int (Int32.ofNat cs.length)), (.ref s)] h [b] (fun v h' => v = none ∧ Keep h h' [b] ∧ Ar Z h' b .byte (byt (cs ++ ds) ++ List.replicate (16 - (cs ++ ds).length) (.int 0))) := by
  refine Ct.of_wp pl_psa G.2.1 (Ls := #[.val (.ref a), .val (.int (Int32.ofNat cs.length)), .val (.ref s)]) rfl ?_
  obtain ⟨q1, q2, q3, q4, q5, q6, q7⟩ := id B0
  refine Wp.run ok_psa 2 2 #[.val (.ref a), .val (.int (Int32.ofNat cs.length)), .val (.ref s)] [(.ref s), (.ref a)] rfl ?_
  refine Wp.callP2 ok_psa (a := a) (argsL := [(.ref s)]) (rest := []) (ct_inf G h B0 S1) q3 G.2.1 (G.1 _ (List.mem_of_getElem? (i := 145) rfl)) (G.1 _ (List.mem_of_getElem? (i := 148) rfl)) (G.1 _ (List.mem_of_getElem? (i := 147) rfl)) (G.1 _ (List.mem_of_getElem? (i := 146) rfl)) (G.1 _ (List.mem_of_getElem? (i := 113) rfl)) (G.1 _ (List.mem_of_getElem? (i := 149) rfl)) rfl rfl (by decide) pd_inf rfl rfl (Nat.le_of_ble_eq_true rfl) (Nat.le_of_ble_eq_true rfl) (Nat.le_of_ble_eq_true rfl) (Nat.le_of_ble_eq_true rfl) all0 ?_
  rintro _ _ ⟨rfl, rfl⟩ -
  refine Wp.run ok_psa 2 7 #[.val (.ref a), .val (.int (Int32.ofNat cs.length)), .val (.ref s)] [(.ref a), (.ref s)] rfl ?_
  refine Wp.getF ok_psa q4 (G.1 _ (List.mem_of_getElem? (i := 117) rfl)) Via.refl rfl rfl ?_
  refine Wp.run ok_psa 2 12 #[.val (.ref a), .val (.int (Int32.ofNat cs.length)), .val (.ref s)] [(.ref a), (.int (Int32.ofNat cs.length)), (.ref b), (.ref s)] rfl ?_
  refine Wp.getF ok_psa q5 (G.1 _ (List.mem_of_getElem? (i := 119) rfl)) Via.refl rfl rfl ?_
  refine Wp.callV ok_psa (a := s) (argsL := [(.ref b), (.int (Int32.ofNat cs.length)), (.int 0)]) (rest := []) (ct_gby G (i := cs.length) (by simp; omega) h S1 q7) S1.exa G.2.1 (G.1 _ (List.mem_of_getElem? (i := 151) rfl)) (G.1 _ (List.mem_of_getElem? (i := 152) rfl)) (G.1 _ (List.mem_of_getElem? (i := 154) rfl)) (G.1 _ (List.mem_of_getElem? (i := 153) rfl)) (G.1 _ (List.mem_of_getElem? (i := 11) rfl)) (G.1 _ (List.mem_of_getElem? (i := 155) rfl)) rfl rfl (by decide) pd_gby rfl rfl (Nat.le_of_ble_eq_true rfl) (Nat.le_of_ble_eq_true rfl) (Nat.le_of_ble_eq_true rfl) (Nat.le_of_ble_eq_true rfl) (allS (List.mem_of_getElem? (i := 0) rfl) all0) ?_
  rintro _ h1 ⟨rfl, K1, B2⟩ -
  rw [bld_put hl] at B2
  exact Wp.ret0 ok_psa rfl rfl rfl ⟨rfl, K1, B2⟩

abbrev mt_aba : Mth := (⟨"java/lang/AbstractStringBuilder", "append", "(Ljava/lang/String;)Ljava/lang/AbstractStringBuilder;"⟩, jdk_68_method_22_code, 3, some (.object "java/lang/AbstractStringBuilder"))
def tb_aba : Tab := [(0, .aload_n 1, 1), (1, .ifnonnull 8, 3), (4, .aload_n 0, 1), (5, .invokevirtual 204, 3), (8, .areturn, 1), (9, .aload_n 1, 1), (10, .invokevirtual 32, 3), (13, .istore_n 2, 1), (14, .aload_n 0, 1), (15, .aload_n 0, 1), (16, .getfield 79, 3), (19, .iload_n 2, 1), (20, .iadd, 1), (21, .invokevirtual 100, 3), (24, .aload_n 0, 1), (25, .aload_n 0, 1), (26, .getfield 79, 3), (29, .aload_n 1, 1), (30, .invokevirtual 208, 3), (33, .aload_n 0, 1), (34, .dup, 1), (35, .getfield 79, 3), (38, .iload_n 2, 1), (39, .iadd, 1), (40, .putfield 79, 3), (43, .aload_n 0, 1), (44, .areturn, 1)]
theorem ok_aba : TabOk mt_aba.2.1 tb_aba := by
  intro x hx
  have q : tb_aba.all (fun x => decide (decode jdk_68_method_22_code x.1 = .ok x.2)) = true := by decide +kernel
  exact of_decide_eq_true (List.all_eq_true.mp q x hx)
theorem pl_aba : plainFor mt_aba.1 = true := by first | decide +kernel | exact plainFor_of_name (by first | (simp [plainName, overriddenIn]; done) | decide +kernel)
theorem pd_aba : parseMethodDescriptor "(Ljava/lang/String;)Ljava/lang/AbstractStringBuilder;" = some ⟨[(.object "java/lang/String")], some (.object "java/lang/AbstractStringBuilder")⟩ := by decide +kernel

set_option maxRecDepth 65536 in
set_option maxHeartbeats 4000000 in
theorem ct_aba {l : Launch} {Z : State} {a0 : Array Value} (G : Gd Z a0) {a b s : Addr} {cs ds : List Int32} (hl : cs.length + ds.length ≤ 16) (h : Heap) (B0 : Bld Z h a b cs) (S1 : Str Z h s ds) :
    Ct l Z EL1 mt_aba ({ frames := 3, cells := 0, slots := 0, locals := 47 } : Room) #[(.ref a), (.ref s)] h [b, a] (fun v h' => v = some (.ref a) ∧ Keep h h' [b, a] ∧ Bld Z h' a b (cs ++ ds)) := by
  refine Ct.of_wp pl_aba G.2.1 (Ls := #[.val (.ref a), .val (.ref s), .unset]) rfl ?_
  obtain ⟨q1, q2, q3, q4, q5, q6, q7⟩ := id B0
  refine Wp.run ok_aba 1 1 #[.val (.ref a), .val (.ref s), .unset] [(.ref s)] rfl ?_
  refine Wp.nonnullT ok_aba 9 rfl rfl (by decide) (by decide) ?_
  refine Wp.run ok_aba 1 10 #[.val (.ref a), .val (.ref s), .unset] [(.ref s)] rfl ?_
  refine Wp.callV ok_aba (a := s) (argsL := []) (rest := []) (ct_len G h S1) S1.exa G.2.1 (G.1 _ (List.mem_of_getElem? (i := 132) rfl)) (G.1 _ (List.mem_of_getElem? (i := 68) rfl)) (G.1 _ (List.mem_of_getElem? (i := 70) rfl)) (G.1 _ (List.mem_of_getElem? (i := 69) rfl)) (G.1 _ (List.mem_of_getElem? (i := 11) rfl)) (G.1 _ (List.mem_of_getElem? (i := 71) rfl)) rfl rfl (by decide) pd_len rfl rfl (Nat.le_of_ble_eq_true rfl) (Nat.le_of_ble_eq_true rfl) (Nat.le_of_ble_eq_true rfl) (Nat.le_of_ble_eq_true rfl) all0 ?_
  rintro _ _ ⟨rfl, rfl⟩ -
  refine Wp.run ok_aba 3 16 #[.val (.ref a), .val (.ref s), .val (.int (Int32.ofNat ds.length))] [(.ref a), (.ref a)] rfl ?_
  refine Wp.getF ok_aba q6 (G.1 _ (List.mem_of_getElem? (i := 133) rfl)) Via.refl rfl rfl ?_
  refine Wp.run ok_aba 2 21 #[.val (.ref a), .val (.ref s), .val (.int (Int32.ofNat ds.length))] [(.int ((Int32.ofNat cs.length) + (Int32.ofNat ds.length))), (.ref a)] rfl ?_
  refine Wp.at #[.val (.ref a), .val (.ref s), .val (.int (Int32.ofNat ds.length))] [(.int (Int32.ofNat (cs.length + ds.length))), (.ref a)] ⟨rfl, (by rw [n_add] <;> rfl)⟩ ?_
  refine Wp.callP2 ok_aba (a := a) (argsL := [(.int (Int32.ofNat (cs.length + ds.length)))]) (rest := []) (ct_eci G hl h B0) q3 G.2.1 (G.1 _ (List.mem_of_getElem? (i := 135) rfl)) (G.1 _ (List.mem_of_getElem? (i := 138) rfl)) (G.1 _ (List.mem_of_getElem? (i := 137) rfl)) (G.1 _ (List.mem_of_getElem? (i := 136) rfl)) (G.1 _ (List.mem_of_getElem? (i := 113) rfl)) (G.1 _ (List.mem_of_getElem? (i := 139) rfl)) rfl rfl (by decide) pd_eci rfl rfl (Nat.le_of_ble_eq_true rfl) (Nat.le_of_ble_eq_true rfl) (Nat.le_of_ble_eq_true rfl) (Nat.le_of_ble_eq_true rfl) all0 ?_
  rintro _ _ ⟨rfl, rfl⟩ -
  refine Wp.run ok_aba 2 26 #[.val (.ref a), .val (.ref s), .val (.int (Int32.ofNat ds.length))] [(.ref a), (.ref a)] rfl ?_
  refine Wp.getF ok_aba q6 (G.1 _ (List.mem_of_getElem? (i := 133) rfl)) Via.refl rfl rfl ?_
  refine Wp.run ok_aba 1 30 #[.val (.ref a), .val (.ref s), .val (.int (Int32.ofNat ds.length))] [(.ref s), (.int (Int32.ofNat cs.length)), (.ref a)] rfl ?_
  refine Wp.callP2 ok_aba (a := a) (argsL := [(.int (Int32.ofNat cs.length)), (.ref s)]) (rest := []) (ct_psa G hl h B0 S1) q3 G.2.1 (G.1 _ (List.mem_of_getElem? (i := 140) rfl)) (G.1 _ (List.mem_of_getElem? (i := 143) rfl)) (G.1 _ (List.mem_of_getElem? (i := 142) rfl)) (G.1 _ (List.mem_of_getElem? (i := 141) rfl)) (G.1 _ (List.mem_of_getElem? (i := 113) rfl)) (G.1 _ (List.mem_of_getElem? (i := 144) rfl)) rfl rfl (by decide) pd_psa rfl rfl (Nat.le_of_ble_eq_true rfl) (Nat.le_of_ble_eq_true rfl) (Nat.le_of_ble_eq_true rfl) (Nat.le_of_ble_eq_true rfl) (allS (List.mem_of_getElem? (i := 0) rfl) all0) ?_
  rintro _ h1 ⟨rfl, K1, B1⟩ -
  have hab : a ∉ [b] := ninS (fun e => by subst e; obtain ⟨cc, A9, -⟩ := q7; exact ne_arr q3 (G.1 _ (List.mem_of_getElem? (i := 104) rfl)) A9 rfl) nin0
  have hba : b ≠ a := fun e => hab (by rw [e]; exact List.mem_cons_self ..)
  refine Wp.run ok_aba 2 35 #[.val (.ref a), .val (.ref s), .val (.int (Int32.ofNat ds.length))] [(.ref a), (.ref a)] rfl ?_
  refine Wp.getF ok_aba (q6.keep K1 hab) (G.1 _ (List.mem_of_getElem? (i := 133) rfl)) Via.refl rfl rfl ?_
  refine Wp.run ok_aba 2 40 #[.val (.ref a), .val (.ref s), .val (.int (Int32.ofNat ds.length))] [(.int ((Int32.ofNat cs.length) + (Int32.ofNat ds.length))), (.ref a)] rfl ?_
  refine Wp.at #[.val (.ref a), .val (.ref s), .val (.int (Int32.ofNat ds.length))] [(.int (Int32.ofNat (cs.length + ds.length))), (.ref a)] ⟨rfl, (by rw [n_add] <;> rfl)⟩ ?_
  refine Wp.putF ok_aba (ty := .int) (q6.keep K1 hab) (q3.keep K1) (List.mem_of_getElem? (i := 1) rfl) (G.1 _ (List.mem_of_getElem? (i := 133) rfl)) Via.refl (Or.inl (G.1 _ (List.mem_of_getElem? (i := 134) rfl))) (G.1 _ (List.mem_of_getElem? (i := 104) rfl)) (by decide) rfl rfl rfl ?_
  intro h2 w2
  refine Wp.run ok_aba 1 44 #[.val (.ref a), .val (.ref s), .val (.int (Int32.ofNat ds.length))] [(.ref a)] rfl ?_
  have lat2 : Lat (cs ++ ds) := fun x hx => (List.mem_append.mp hx).elim (q1 x) (S1.lat x)
  exact Wp.retA ok_aba (t := (.object "java/lang/AbstractStringBuilder")) rfl rfl rfl rfl rfl ⟨rfl, own_keep2 K1 w2, lat2, by rw [List.length_append]; exact hl, (q3.keep K1).wr w2, (q4.keep K1 hab).other w2 (Or.inr (slot_ne (Or.inl (G.1 _ (List.mem_of_getElem? (i := 118) rfl))) (Or.inl (G.1 _ (List.mem_of_getElem? (i := 134) rfl))) (by decide) (t := (.array .byte)) (t' := .int) (by decide) (by decide))), (q5.keep K1 hab).other w2 (Or.inr (slot_ne (Or.inl (G.1 _ (List.mem_of_getElem? (i := 120) rfl))) (Or.inl (G.1 _ (List.mem_of_getElem? (i := 134) rfl))) (by decide) (t := .byte) (t' := .int) (by decide) (by decide))), by rw [List.length_append]; exact (q6.keep K1 hab).same w2, B1.other w2 hba⟩

abbrev mt_sba : Mth := (⟨"java/lang/StringBuilder", "append", "(Ljava/lang/String;)Ljava/lang/StringBuilder;"⟩, jdk_67_method_7_code, 2, some (.object "java/lang/StringBuilder"))
def tb_sba : Tab := [(0, .aload_n 0, 1), (1, .aload_n 1, 1), (2, .invokespecial 29, 3), (5, .pop, 1), (6, .aload_n 0, 1), (7, .areturn, 1)]
theorem ok_sba : TabOk mt_sba.2.1 tb_sba := by
  intro x hx
  have q : tb_sba.all (fun x => decide (decode jdk_67_method_7_code x.1 = .ok x.2)) = true := by decide +kernel
  exact of_decide_eq_true (List.all_eq_true.mp q x hx)
theorem pl_sba : plainFor mt_sba.1 = true := by first | decide +kernel | exact plainFor_of_name (by first | (simp [plainName, overriddenIn]; done) | decide +kernel)
theorem pd_sba : parseMethodDescriptor "(Ljava/lang/String;)Ljava/lang/StringBuilder;" = some ⟨[(.object "java/lang/String")], some (.object "java/lang/StringBuilder")⟩ := by decide +kernel

set_option maxRecDepth 65536 in
set_option maxHeartbeats 4000000 in
theorem ct_sba {l : Launch} {Z : State} {a0 : Array Value} (G : Gd Z a0) {a b s : Addr} {cs ds : List Int32} (hl : cs.length + ds.length ≤ 16) (h : Heap) (B0 : Bld Z h a b cs) (S1 : Str Z h s ds) :
    Ct l Z EL1 mt_sba ({ frames := 4, cells := 0, slots := 0, locals := 61 } : Room) #[(.ref a), (.ref s)] h [b, a] (fun v h' => v = some (.ref a) ∧ Keep h h' [b, a] ∧ Bld Z h' a b (cs ++ ds)) := by
  refine Ct.of_wp pl_sba G.2.1 (Ls := #[.val (.ref a), .val (.ref s)]) rfl ?_
  refine Wp.run ok_sba 2 2 #[.val (.ref a), .val (.ref s)] [(.ref s), (.ref a)] rfl ?_
  refine Wp.callU ok_sba (a := a) (argsL := [(.ref s)]) (rest := []) (ct_aba G hl h B0 S1) B0.exa G.2.1 (G.1 _ (List.mem_of_getElem? (i := 127) rfl)) (G.1 _ (List.mem_of_getElem? (i := 130) rfl)) (G.1 _ (List.mem_of_getElem? (i := 138) rfl)) rfl (G.1 _ (List.mem_of_getElem? (i := 129) rfl)) (G.1 _ (List.mem_of_getElem? (i := 128) rfl)) (G.1 _ (List.mem_of_getElem? (i := 113) rfl)) (G.1 _ (List.mem_of_getElem? (i := 131) rfl)) rfl rfl (by decide) (by decide) pd_aba rfl rfl (Nat.le_of_ble_eq_true rfl) (Nat.le_of_ble_eq_true rfl) (Nat.le_of_ble_eq_true rfl) (Nat.le_of_ble_eq_true rfl) (allS (List.mem_of_getElem? (i := 0) rfl) (allS (List.mem_of_getElem? (i := 1) rfl) all0)) ?_
  rintro _ h1 ⟨rfl, K1, B1⟩ -
  refine Wp.run ok_sba 2 7 #[.val (.ref a), .val (.ref s)] [(.ref a)] rfl ?_
  exact Wp.retA ok_sba (t := (.object "java/lang/StringBuilder")) rfl rfl rfl rfl rfl ⟨rfl, K1, B1⟩

abbrev mt_abv : Mth := (⟨"java/lang/AbstractStringBuilder", "getValue", "()[B"⟩, jdk_68_method_64_code, 1, some (.array .byte))
def tb_abv : Tab := [(0, .aload_n 0, 1), (1, .getfield 15, 3), (4, .areturn, 1)]
theorem ok_abv : TabOk mt_abv.2.1 tb_abv := by
  intro x hx
  have q : tb_abv.all (fun x => decide (decode jdk_68_method_64_code x.1 = .ok x.2)) = true := by decide +kernel
  exact of_decide_eq_true (List.all_eq_true.mp q x hx)
theorem pl_abv : plainFor mt_abv.1 = true := by first | decide +kernel | exact plainFor_of_name (by first | (simp [plainName, overriddenIn]; done) | decide +kernel)
theorem pd_abv : parseMethodDescriptor "()[B" = some ⟨[], some (.array .byte)⟩ := by decide +kernel

set_option maxRecDepth 65536 in
set_option maxHeartbeats 4000000 in
theorem ct_abv {l : Launch} {Z : State} {a0 : Array Value} (G : Gd Z a0) {a b : Addr} {cs : List Int32} (h : Heap) (B0 : Bld Z h a b cs) :
    Ct l Z EL1 mt_abv ({ frames := 0, cells := 0, slots := 0, locals := 0 } : Room) #[(.ref a)] h [] (fun v h' => v = some (.ref b) ∧ h = h') := by
  refine Ct.of_wp pl_abv G.2.1 (Ls := #[.val (.ref a)]) rfl ?_
  obtain ⟨q1, q2, q3, q4, q5, q6, q7⟩ := B0
  refine Wp.run ok_abv 1 1 #[.val (.ref a)] [(.ref a)] rfl ?_
  refine Wp.getF ok_abv q4 (G.1 _ (List.mem_of_getElem? (i := 117) rfl)) Via.refl rfl rfl ?_
  exact Wp.retA ok_abv (t := (.array .byte)) rfl rfl rfl rfl rfl ⟨rfl, rfl⟩

abbrev mt_abl : Mth := (⟨"java/lang/AbstractStringBuilder", "length", "()I"⟩, jdk_68_method_6_code, 1, some .int)
def tb_abl : Tab := [(0, .aload_n 0, 1), (1, .getfield 79, 3), (4, .ireturn, 1)]
theorem ok_abl : TabOk mt_abl.2.1 tb_abl := by
  intro x hx
  have q : tb_abl.all (fun x => decide (decode jdk_68_method_6_code x.1 = .ok x.2)) = true := by decide +kernel
  exact of_decide_eq_true (List.all_eq_true.mp q x hx)
theorem pl_abl : plainFor mt_abl.1 = true := by first | decide +kernel | exact plainFor_of_name (by first | (simp [plainName, overriddenIn]; done) | decide +kernel)
theorem pd_abl : parseMethodDescriptor "()I" = some ⟨[], some .int⟩ := by decide +kernel

set_option maxRecDepth 65536 in
set_option maxHeartbeats 4000000 in
theorem ct_abl {l : Launch} {Z : State} {a0 : Array Value} (G : Gd Z a0) {a b : Addr} {cs : List Int32} (h : Heap) (B0 : Bld Z h a b cs) :
    Ct l Z EL1 mt_abl ({ frames := 0, cells := 0, slots := 0, locals := 0 } : Room) #[(.ref a)] h [] (fun v h' => v = some (.int (Int32.ofNat cs.length)) ∧ h = h') := by
  refine Ct.of_wp pl_abl G.2.1 (Ls := #[.val (.ref a)]) rfl ?_
  obtain ⟨q1, q2, q3, q4, q5, q6, q7⟩ := B0
  refine Wp.run ok_abl 1 1 #[.val (.ref a)] [(.ref a)] rfl ?_
  refine Wp.getF ok_abl q6 (G.1 _ (List.mem_of_getElem? (i := 133) rfl)) Via.refl rfl rfl ?_
  exact Wp.retI ok_abl (t := .int) rfl (by decide) rfl rfl rfl ⟨rfl, rfl⟩

abbrev mt_sbl : Mth := (⟨"java/lang/StringBuilder", "length", "()I"⟩, jdk_67_method_93_code, 1, some .int)
def tb_sbl : Tab := [(0, .aload_n 0, 1), (1, .invokespecial 343, 3), (4, .ireturn, 1)]
theorem ok_sbl : TabOk mt_sbl.2.1 tb_sbl := by
  intro x hx
  have q : tb_sbl.all (fun x => decide (decode jdk_67_method_93_code x.1 = .ok x.2)) = true := by decide +kernel
  exact of_decide_eq_true (List.all_eq_true.mp q x hx)
theorem pl_sbl : plainFor mt_sbl.1 = true := by first | decide +kernel | exact plainFor_of_name (by first | (simp [plainName, overriddenIn]; done) | decide +kernel)
theorem pd_sbl : parseMethodDescriptor "()I" = some ⟨[], some .int⟩ := by decide +kernel

set_option maxRecDepth 65536 in
set_option maxHeartbeats 4000000 in
theorem ct_sbl {l : Launch} {Z : State} {a0 : Array Value} (G : Gd Z a0) {a b : Addr} {cs : List Int32} (h : Heap) (B0 : Bld Z h a b cs) :
    Ct l Z EL1 mt_sbl ({ frames := 1, cells := 0, slots := 0, locals := 12 } : Room) #[(.ref a)] h [] (fun v h' => v = some (.int (Int32.ofNat cs.length)) ∧ h = h') := by
  refine Ct.of_wp pl_sbl G.2.1 (Ls := #[.val (.ref a)]) rfl ?_
  refine Wp.run ok_sbl 1 1 #[.val (.ref a)] [(.ref a)] rfl ?_
  refine Wp.callU ok_sbl (a := a) (argsL := []) (rest := []) (ct_abl G h B0) B0.exa G.2.1 (G.1 _ (List.mem_of_getElem? (i := 184) rfl)) (G.1 _ (List.mem_of_getElem? (i := 179) rfl)) (G.1 _ (List.mem_of_getElem? (i := 138) rfl)) rfl (G.1 _ (List.mem_of_getElem? (i := 129) rfl)) (G.1 _ (List.mem_of_getElem? (i := 180) rfl)) (G.1 _ (List.mem_of_getElem? (i := 113) rfl)) (G.1 _ (List.mem_of_getElem? (i := 185) rfl)) rfl rfl (by decide) (by decide) pd_abl rfl rfl (Nat.le_of_ble_eq_true rfl) (Nat.le_of_ble_eq_true rfl) (Nat.le_of_ble_eq_true rfl) (Nat.le_of_ble_eq_true rfl) all0 ?_
  rintro _ _ ⟨rfl, rfl⟩ -
  exact Wp.retI ok_sbl (t := .int) rfl (by decide) rfl rfl rfl ⟨rfl, rfl⟩

abbrev mt_abt : Mth := (⟨"java/lang/AbstractStringBuilder", "isLatin1", "()Z"⟩, jdk_68_method_68_code, 1, some .boolean)
def tb_abt : Tab := [(0, .getstatic 18, 3), (3, .ifCond .eq 14, 3), (6, .aload_n 0, 1), (7, .getfield 22, 3), (10, .ifCond .ne 7, 3), (13, .iconst 1, 1), (14, .goto 4, 3), (17, .iconst 0, 1), (18, .ireturn, 1)]
theorem ok_abt : TabOk mt_abt.2.1 tb_abt := by
  intro x hx
  have q : tb_abt.all (fun x => decide (decode jdk_68_method_68_code x.1 = .ok x.2)) = true := by decide +kernel
  exact of_decide_eq_true (List.all_eq_true.mp q x hx)
theorem pl_abt : plainFor mt_abt.1 = true := by first | decide +kernel | exact plainFor_of_name (by first | (simp [plainName, overriddenIn]; done) | decide +kernel)
theorem pd_abt : parseMethodDescriptor "()Z" = some ⟨[], some .boolean⟩ := by decide +kernel

set_option maxRecDepth 65536 in
set_option maxHeartbeats 4000000 in
theorem ct_abt {l : Launch} {Z : State} {a0 : Array Value} (G : Gd Z a0) {a b : Addr} {cs : List Int32} (h : Heap) (B0 : Bld Z h a b cs) :
    Ct l Z EL1 mt_abt ({ frames := 0, cells := 0, slots := 0, locals := 0 } : Room) #[(.ref a)] h [] (fun v h' => v = some (.int 1) ∧ h = h') := by
  refine Ct.of_wp pl_abt G.2.1 (Ls := #[.val (.ref a)]) rfl ?_
  obtain ⟨q1, q2, q3, q4, q5, q6, q7⟩ := B0
  obtain ⟨vC, fC, nC⟩ := G.2.2.1
  refine Wp.getS ok_abt fC (G.1 _ (List.mem_of_getElem? (i := 116) rfl)) Via.refl rfl ?_
  refine Wp.ifF ok_abt rfl rfl (show ¬ vC = (0 : Int32) from nC) ?_
  refine Wp.run ok_abt 1 7 #[.val (.ref a)] [(.ref a)] rfl ?_
  refine Wp.getF ok_abt q5 (G.1 _ (List.mem_of_getElem? (i := 119) rfl)) Via.refl rfl rfl ?_
  refine Wp.ifF ok_abt rfl rfl (show 0 = (0 : Int32) from rfl) ?_
  refine Wp.run ok_abt 2 18 #[.val (.ref a)] [(.int (1 : Int32))] rfl ?_
  exact Wp.retI ok_abt (t := .boolean) rfl (by decide) rfl rfl rfl ⟨rfl, rfl⟩

abbrev mt_sab : Mth := (⟨"java/lang/String", "<init>", "(Ljava/lang/AbstractStringBuilder;Ljava/lang/Void;)V"⟩, jdk_42_method_150_code, 5, none)
def tb_sab : Tab := [(0, .aload_n 0, 1), (1, .invokespecial 1, 3), (4, .aload_n 1, 1), (5, .invokevirtual 552, 3), (8, .astore_n 3, 1), (9, .aload_n 1, 1), (10, .invokevirtual 549, 3), (13, .istore 4, 2), (15, .aload_n 1, 1), (16, .invokevirtual 1047, 3), (19, .ifCond .eq 22, 3), (22, .aload_n 0, 1), (23, .iconst 0, 1), (24, .putfield 15, 3), (27, .aload_n 0, 1), (28, .aload_n 3, 1), (29, .iconst 0, 1), (30, .iload 4, 2), (32, .invokestatic 54, 3), (35, .putfield 9, 3), (38, .goto 59, 3), (41, .getstatic 38, 3), (44, .ifCond .eq 35, 3), (47, .aload_n 1, 1), (48, .getfield 1048, 3), (51, .ifCond .eq 28, 3), (54, .aload_n 0, 1), (55, .aload_n 3, 1), (56, .iconst 0, 1), (57, .iload 4, 2), (59, .invokestatic 1051, 3), (62, .putfield 9, 3), (65, .aload_n 0, 1), (66, .aload_n 0, 1), (67, .getfield 9, 3), (70, .iload 4, 2), (72, .invokestatic 47, 3), (75, .putfield 15, 3), (78, .return_, 1), (79, .aload_n 0, 1), (80, .iconst 1, 1), (81, .putfield 15, 3), (84, .aload_n 0, 1), (85, .aload_n 3, 1), (86, .iconst 0, 1), (87, .iload 4, 2), (89, .iconst 1, 1), (90, .ishl, 1), (91, .invokestatic 54, 3), (94, .putfield 9, 3), (97, .return_, 1)]
theorem ok_sab : TabOk mt_sab.2.1 tb_sab := by
  intro x hx
  have q : tb_sab.all (fun x => decide (decode jdk_42_method_150_code x.1 = .ok x.2)) = true := by decide +kernel
  exact of_decide_eq_true (List.all_eq_true.mp q x hx)
theorem pl_sab : plainFor mt_sab.1 = true := by first | decide +kernel | exact plainFor_of_name (by first | (simp [plainName, overriddenIn]; done) | decide +kernel)
theorem pd_sab : parseMethodDescriptor "(Ljava/lang/AbstractStringBuilder;Ljava/lang/Void;)V" = some ⟨[(.object "java/lang/AbstractStringBuilder"), (.object "java/lang/Void")], none⟩ := by decide +kernel

set_option maxRecDepth 65536 in
set_option maxHeartbeats 4000000 in
theorem ct_sab {l : Launch} {Z : State} {a0 : Array Value} (G : Gd Z a0) {a sb b : Addr} {cs : List Int32} (hl : cs.length < 16) (hba : b ≠ a) (h : Heap) (X0 : Exa Z h a "java/lang/String") (F1 : Fld Z h a "java/lang/String" "coder" "B" (.int 0)) {v0 : Value} (F2 : Fld Z h a "java/lang/String" "value" "[B" v0) (B0 : Bld Z h sb b cs) :
    Ct l Z EL1 mt_sab ({ frames := 3, cells := 1, slots := 16, locals := 49 } : Room) #[(.ref a), (.ref sb), .null] h [a] (fun v h' => v = none ∧ Keep h h' [a] ∧ Str Z h' a cs) := by
  refine Ct.of_wp pl_sab G.2.1 (Ls := #[.val (.ref a), .val (.ref sb), .val .null, .unset, .unset]) rfl ?_
  obtain ⟨q1, q2, q3, q4, q5, q6, q7⟩ := id B0
  refine Wp.run ok_sab 1 1 #[.val (.ref a), .val (.ref sb), .val .null, .unset, .unset] [(.ref a)] rfl ?_
  refine Wp.initO ok_sab (G.1 _ (List.mem_of_getElem? (i := 20) rfl)) (G.1 _ (List.mem_of_getElem? (i := 21) rfl)) (G.1 _ (List.mem_of_getElem? (i := 22) rfl)) rfl rfl rfl (Nat.le_of_ble_eq_true rfl) (Nat.le_of_ble_eq_true rfl) ?_
  refine Wp.run ok_sab 1 5 #[.val (.ref a), .val (.ref sb), .val .null, .unset, .unset] [(.ref sb)] rfl ?_
  refine Wp.callV ok_sab (a := sb) (argsL := []) (rest := []) (ct_abv G h B0) q3 G.2.1 (G.1 _ (List.mem_of_getElem? (i := 173) rfl)) (G.1 _ (List.mem_of_getElem? (i := 174) rfl)) (G.1 _ (List.mem_of_getElem? (i := 176) rfl)) (G.1 _ (List.mem_of_getElem? (i := 175) rfl)) (G.1 _ (List.mem_of_getElem? (i := 113) rfl)) (G.1 _ (List.mem_of_getElem? (i := 177) rfl)) rfl rfl (by decide) pd_abv rfl rfl (Nat.le_of_ble_eq_true rfl) (Nat.le_of_ble_eq_true rfl) (Nat.le_of_ble_eq_true rfl) (Nat.le_of_ble_eq_true rfl) all0 ?_
  rintro _ _ ⟨rfl, rfl⟩ -
  refine Wp.run ok_sab 2 10 #[.val (.ref a), .val (.ref sb), .val .null, .val (.ref b), .unset] [(.ref sb)] rfl ?_
  refine Wp.callV2 ok_sab (a := sb) (argsL := []) (rest := []) (ct_sbl G h B0) q3 G.2.1 (G.1 _ (List.mem_of_getElem? (i := 178) rfl)) (G.1 _ (List.mem_of_getElem? (i := 179) rfl)) (G.1 _ (List.mem_of_getElem? (i := 138) rfl)) rfl (G.1 _ (List.mem_of_getElem? (i := 181) rfl)) (G.1 _ (List.mem_of_getElem? (i := 182) rfl)) (G.1 _ (List.mem_of_getElem? (i := 105) rfl)) (G.1 _ (List.mem_of_getElem? (i := 183) rfl)) rfl rfl (by decide) pd_sbl rfl rfl (Nat.le_of_ble_eq_true rfl) (Nat.le_of_ble_eq_true rfl) (Nat.le_of_ble_eq_true rfl) (Nat.le_of_ble_eq_true rfl) all0 ?_
  rintro _ _ ⟨rfl, rfl⟩ -
  refine Wp.run ok_sab 2 16 #[.val (.ref a), .val (.ref sb), .val .null, .val (.ref b), .val (.int (Int32.ofNat cs.length))] [(.ref sb)] rfl ?_
  refine Wp.callV ok_sab (a := sb) (argsL := []) (rest := []) (ct_abt G h B0) q3 G.2.1 (G.1 _ (List.mem_of_getElem? (i := 186) rfl)) (G.1 _ (List.mem_of_getElem? (i := 187) rfl)) (G.1 _ (List.mem_of_getElem? (i := 189) rfl)) (G.1 _ (List.mem_of_getElem? (i := 188) rfl)) (G.1 _ (List.mem_of_getElem? (i := 113) rfl)) (G.1 _ (List.mem_of_getElem? (i := 190) rfl)) rfl rfl (by decide) pd_abt rfl rfl (Nat.le_of_ble_eq_true rfl) (Nat.le_of_ble_eq_true rfl) (Nat.le_of_ble_eq_true rfl) (Nat.le_of_ble_eq_true rfl) all0 ?_
  rintro _ _ ⟨rfl, rfl⟩ -
  refine Wp.ifF ok_sab rfl rfl (show ¬ 1 = (0 : Int32) from by decide) ?_
  refine Wp.run ok_sab 2 24 #[.val (.ref a), .val (.ref sb), .val .null, .val (.ref b), .val (.int (Int32.ofNat cs.length))] [(.int (0 : Int32)), (.ref a)] rfl ?_
  refine Wp.putF ok_sab (ty := .byte) F1 X0 (List.mem_of_getElem? (i := 0) rfl) (G.1 _ (List.mem_of_getElem? (i := 35) rfl)) Via.refl (Or.inr ⟨(G.1 _ (List.mem_of_getElem? (i := 36) rfl)), rfl, rfl⟩) (G.1 _ (List.mem_of_getElem? (i := 10) rfl)) (by decide) rfl rfl rfl ?_
  intro h1 w1
  refine Wp.run ok_sab 4 32 #[.val (.ref a), .val (.ref sb), .val .null, .val (.ref b), .val (.int (Int32.ofNat cs.length))] [(.int (Int32.ofNat cs.length)), (.int (0 : Int32)), (.ref b), (.ref a)] rfl ?_
  refine Wp.callS ok_sab (argsL := [(.ref b), (.int (0 : Int32)), (.int (Int32.ofNat cs.length))]) (rest := [(.ref a)]) (ct_cor G (i := 0) (j := cs.length) (Nat.zero_le _) (by simp) (by omega) (by simp; omega) h1 (q7.other w1 hba)) G.2.1 (G.1 _ (List.mem_of_getElem? (i := 191) rfl)) (G.1 _ (List.mem_of_getElem? (i := 192) rfl)) (G.1 _ (List.mem_of_getElem? (i := 193) rfl)) (G.1 _ (List.mem_of_getElem? (i := 194) rfl)) rfl rfl (by decide) pd_cor rfl rfl (Nat.le_of_ble_eq_true rfl) (Nat.le_of_ble_eq_true rfl) (Nat.le_of_ble_eq_true rfl) (Nat.le_of_ble_eq_true rfl) all0 ?_
  rintro _ h2 ⟨d, rfl, E2, B2, hd⟩ -
  rw [bld_take q2] at B2
  refine Wp.putF ok_sab (ty := (.array .byte)) ((F2.other w1 (Or.inr (slot_ne (Or.inr (G.1 _ (List.mem_of_getElem? (i := 38) rfl))) (Or.inr (G.1 _ (List.mem_of_getElem? (i := 36) rfl))) (by decide) (t := (.array .byte)) (t' := .byte) (by decide) (by decide)))).ext E2) ((X0.wr w1).ext E2) (List.mem_of_getElem? (i := 0) rfl) (G.1 _ (List.mem_of_getElem? (i := 37) rfl)) Via.refl (Or.inr ⟨(G.1 _ (List.mem_of_getElem? (i := 38) rfl)), rfl, rfl⟩) (G.1 _ (List.mem_of_getElem? (i := 10) rfl)) (by decide) rfl rfl rfl ?_
  intro h3 w3
  refine Wp.run ok_sab 1 97 #[.val (.ref a), .val (.ref sb), .val .null, .val (.ref b), .val (.int (Int32.ofNat cs.length))] [] rfl ?_
  have hda : d ≠ a := Nat.ne_of_gt (Nat.lt_of_lt_of_le ((X0.wr w1).lt) hd)
  exact Wp.ret0 ok_sab rfl rfl rfl ⟨rfl, (((wr_keep w1).ext E2).trans (wr_keep w3) (fun x hx => Or.inl hx)), q1, ((X0.wr w1).ext E2).wr w3, ((F1.same w1).ext E2).other w3 (Or.inr (slot_ne (Or.inr (G.1 _ (List.mem_of_getElem? (i := 36) rfl))) (Or.inr (G.1 _ (List.mem_of_getElem? (i := 38) rfl))) (by decide) (t := .byte) (t' := (.array .byte)) (by decide) (by decide))), d, ((F2.other w1 (Or.inr (slot_ne (Or.inr (G.1 _ (List.mem_of_getElem? (i := 38) rfl))) (Or.inr (G.1 _ (List.mem_of_getElem? (i := 36) rfl))) (by decide) (t := (.array .byte)) (t' := .byte) (by decide) (by decide)))).ext E2).same w3, B2.other w3 hda⟩

abbrev mt_ssb : Mth := (⟨"java/lang/String", "<init>", "(Ljava/lang/StringBuilder;)V"⟩, jdk_42_method_53_code, 2, none)
def tb_ssb : Tab := [(0, .aload_n 0, 1), (1, .aload_n 1, 1), (2, .aconst_null, 1), (3, .invokespecial 489, 3), (6, .return_, 1)]
theorem ok_ssb : TabOk mt_ssb.2.1 tb_ssb := by
  intro x hx
  have q : tb_ssb.all (fun x => decide (decode jdk_42_method_53_code x.1 = .ok x.2)) = true := by decide +kernel
  exact of_decide_eq_true (List.all_eq_true.mp q x hx)
theorem pl_ssb : plainFor mt_ssb.1 = true := by first | decide +kernel | exact plainFor_of_name (by first | (simp [plainName, overriddenIn]; done) | decide +kernel)
theorem pd_ssb : parseMethodDescriptor "(Ljava/lang/StringBuilder;)V" = some ⟨[(.object "java/lang/StringBuilder")], none⟩ := by decide +kernel

set_option maxRecDepth 65536 in
set_option maxHeartbeats 4000000 in
theorem ct_ssb {l : Launch} {Z : State} {a0 : Array Value} (G : Gd Z a0) {a sb b : Addr} {cs : List Int32} (hl : cs.length < 16) (hba : b ≠ a) (h : Heap) (X0 : Exa Z h a "java/lang/String") (F1 : Fld Z h a "java/lang/String" "coder" "B" (.int 0)) {v0 : Value} (F2 : Fld Z h a "java/lang/String" "value" "[B" v0) (B0 : Bld Z h sb b cs) :
    Ct l Z EL1 mt_ssb ({ frames := 4, cells := 1, slots := 16, locals := 65 } : Room) #[(.ref a), (.ref sb)] h [a] (fun v h' => v = none ∧ Keep h h' [a] ∧ Str Z h' a cs) := by
  refine Ct.of_wp pl_ssb G.2.1 (Ls := #[.val (.ref a), .val (.ref sb)]) rfl ?_
  refine Wp.run ok_ssb 3 3 #[.val (.ref a), .val (.ref sb)] [.null, (.ref sb), (.ref a)] rfl ?_
  refine Wp.callI ok_ssb (a := a) (argsL := [(.ref sb), .null]) (rest := []) (ct_sab G hl hba h X0 F1 F2 B0) G.2.1 (G.1 _ (List.mem_of_getElem? (i := 170) rfl)) (G.1 _ (List.mem_of_getElem? (i := 171) rfl)) (G.1 _ (List.mem_of_getElem? (i := 11) rfl)) (G.1 _ (List.mem_of_getElem? (i := 172) rfl)) rfl rfl rfl rfl (by decide) pd_sab rfl rfl (Nat.le_of_ble_eq_true rfl) (Nat.le_of_ble_eq_true rfl) (Nat.le_of_ble_eq_true rfl) (Nat.le_of_ble_eq_true rfl) (allS (List.mem_of_getElem? (i := 0) rfl) all0) ?_
  rintro _ h1 ⟨rfl, K1, S1⟩ -
  exact Wp.ret0 ok_ssb rfl rfl rfl ⟨rfl, K1, S1⟩

abbrev mt_sbs : Mth := (⟨"java/lang/StringBuilder", "toString", "()Ljava/lang/String;"⟩, jdk_67_method_42_code, 1, some (.object "java/lang/String"))
def tb_sbs : Tab := [(0, .new 18, 3), (3, .dup, 1), (4, .aload_n 0, 1), (5, .invokespecial 137, 3), (8, .areturn, 1)]
theorem ok_sbs : TabOk mt_sbs.2.1 tb_sbs := by
  intro x hx
  have q : tb_sbs.all (fun x => decide (decode jdk_67_method_42_code x.1 = .ok x.2)) = true := by decide +kernel
  exact of_decide_eq_true (List.all_eq_true.mp q x hx)
theorem pl_sbs : plainFor mt_sbs.1 = true := by first | decide +kernel | exact plainFor_of_name (by first | (simp [plainName, overriddenIn]; done) | decide +kernel)
theorem pd_sbs : parseMethodDescriptor "()Ljava/lang/String;" = some ⟨[], some (.object "java/lang/String")⟩ := by decide +kernel

set_option maxRecDepth 65536 in
set_option maxHeartbeats 4000000 in
theorem ct_sbs {l : Launch} {Z : State} {a0 : Array Value} (G : Gd Z a0) {a b : Addr} {cs : List Int32} (hl : cs.length < 16) (h : Heap) (B0 : Bld Z h a b cs) :
    Ct l Z EL1 mt_sbs ({ frames := 5, cells := 2, slots := 20, locals := 79 } : Room) #[(.ref a)] h [] (fun v h' => ∃ d, v = some (.ref d) ∧ Ext h h' ∧ Str Z h' d cs) := by
  refine Ct.of_wp pl_sbs G.2.1 (Ls := #[.val (.ref a)]) rfl ?_
  have hb : b < h.size := B0.2.2.2.2.2.2.lt
  refine Wp.new ok_sbs (G.1 _ (List.mem_of_getElem? (i := 166) rfl)) (G.1 _ (List.mem_of_getElem? (i := 10) rfl)) (G.1 _ (List.mem_of_getElem? (i := 11) rfl)) rfl (Nat.le_of_ble_eq_true rfl) (Nat.le_of_ble_eq_true rfl) ?_
  intro h1 E1 X1 D_h1
  have F1_h1 : Fld Z h1 h.size "java/lang/String" "coder" "B" (.int 0) := D_h1 (Or.inr (G.1 _ (List.mem_of_getElem? (i := 36) rfl))) (ty := .byte) (by decide)
  have F2_h1 : Fld Z h1 h.size "java/lang/String" "value" "[B" .null := D_h1 (Or.inr (G.1 _ (List.mem_of_getElem? (i := 38) rfl))) (ty := .array .byte) (by decide)
  refine Wp.run ok_sbs 2 5 #[.val (.ref a)] [(.ref a), (.ref h.size), (.ref h.size)] rfl ?_
  refine Wp.callI ok_sbs (a := h.size) (argsL := [(.ref a)]) (rest := [(.ref h.size)]) (ct_ssb G hl (Nat.ne_of_lt hb) h1 X1 F1_h1 F2_h1 (B0.ext E1)) G.2.1 (G.1 _ (List.mem_of_getElem? (i := 167) rfl)) (G.1 _ (List.mem_of_getElem? (i := 168) rfl)) (G.1 _ (List.mem_of_getElem? (i := 11) rfl)) (G.1 _ (List.mem_of_getElem? (i := 169) rfl)) rfl rfl rfl rfl (by decide) pd_ssb rfl rfl (Nat.le_of_ble_eq_true rfl) (Nat.le_of_ble_eq_true rfl) (Nat.le_of_ble_eq_true rfl) (Nat.le_of_ble_eq_true rfl) (allS (List.mem_of_getElem? (i := 0) rfl) all0) ?_
  rintro _ h2 ⟨rfl, K2, S2⟩ -
  exact Wp.retA ok_sbs (t := (.object "java/lang/String")) rfl rfl rfl rfl rfl ⟨_, rfl, ext_keep E1 K2 (all1 (Nat.le_refl _)), S2⟩
end Jvm.Pilot.@@N@@
namespace Jvm.Pilot.@@N@@
open Jvm Jvm.ClassFile Sem Op Lib Jvm.Free Jvm.Stand Jvm.LawKit Jvm.RoadKit Bundle Jvm.Pilot.@@N@@.Jvm.D Jvm.Pilot.@@N@@.Kw
abbrev mt_tag : Mth := (⟨"holdfast/HashSlot", "tag", "(Ljava/lang/String;)Ljava/lang/String;"⟩, prog_2_method_8_code, 3, some (.object "java/lang/String"))
def tb_tag : Tab := [(0, .aload_n 0, 1), (1, .bipush 123, 2), (3, .invokevirtual 35, 3), (6, .istore_n 1, 1), (7, .iload_n 1, 1), (8, .ifCond .ge 7, 3), (11, .iconst (-1), 1), (12, .goto 12, 3), (15, .aload_n 0, 1), (16, .bipush 125, 2), (18, .iload_n 1, 1), (19, .iconst 1, 1), (20, .iadd, 1), (21, .invokevirtual 77, 3), (24, .istore_n 2, 1), (25, .iload_n 2, 1), (26, .iload_n 1, 1), (27, .iconst 1, 1), (28, .iadd, 1), (29, .if_icmp .le 14, 3), (32, .aload_n 0, 1), (33, .iload_n 1, 1), (34, .iconst 1, 1), (35, .iadd, 1), (36, .iload_n 2, 1), (37, .invokevirtual 80, 3), (40, .goto 4, 3), (43, .aconst_null, 1), (44, .areturn, 1)]
theorem ok_tag : TabOk mt_tag.2.1 tb_tag := by
  intro x hx
  have q : tb_tag.all (fun x => decide (decode prog_2_method_8_code x.1 = .ok x.2)) = true := by decide +kernel
  exact of_decide_eq_true (List.all_eq_true.mp q x hx)
theorem pl_tag : plainFor mt_tag.1 = true := by first | decide +kernel | exact plainFor_of_name (by first | (simp [plainName, overriddenIn]; done) | decide +kernel)
theorem pd_tag : parseMethodDescriptor "(Ljava/lang/String;)Ljava/lang/String;" = some ⟨[(.object "java/lang/String")], some (.object "java/lang/String")⟩ := by decide +kernel

set_option maxRecDepth 65536 in
set_option maxHeartbeats 4000000 in
theorem ct_tagN {l : Launch} {Z : State} {a0 : Array Value} (G : Gd Z a0) {a : Addr} {ks : List Int32} (hT : tg ks = none) (h : Heap) (S1 : Str Z h a ks) :
    Ct l Z EL1 mt_tag ({ frames := 4, cells := 0, slots := 0, locals := 59 } : Room) #[(.ref a)] h [] (fun v h' => v = some .null ∧ h = h') := by
  refine Ct.of_wp pl_tag G.2.1 (Ls := #[.val (.ref a), .unset, .unset]) rfl ?_
  have h31 := S1.len
  refine Wp.run ok_tag 2 3 #[.val (.ref a), .unset, .unset] [(.int (123 : Int32)), (.ref a)] rfl ?_
  refine Wp.callV ok_tag (a := a) (argsL := [(.int (123 : Int32))]) (rest := []) (ct_ix1 G (show 0 ≤ (123 : Int32).toInt ∧ (123 : Int32).toInt ≤ 255 by decide) h S1) S1.exa G.2.1 (G.1 _ (List.mem_of_getElem? (i := 52) rfl)) (G.1 _ (List.mem_of_getElem? (i := 53) rfl)) (G.1 _ (List.mem_of_getElem? (i := 55) rfl)) (G.1 _ (List.mem_of_getElem? (i := 54) rfl)) (G.1 _ (List.mem_of_getElem? (i := 11) rfl)) (G.1 _ (List.mem_of_getElem? (i := 56) rfl)) rfl rfl (by decide) pd_ix1 rfl rfl (Nat.le_of_ble_eq_true rfl) (Nat.le_of_ble_eq_true rfl) (Nat.le_of_ble_eq_true rfl) (Nat.le_of_ble_eq_true rfl) all0 ?_
  rintro _ _ ⟨rfl, rfl⟩ -
  rcases tg_none hT with h0 | ⟨o, h0, ho, hr⟩
  · refine Wp.at #[.val (.ref a), .unset, .unset] [(.int (-1))] ⟨rfl, (by rw [ixF_none h0] <;> rfl)⟩ ?_
    refine Wp.run ok_tag 2 8 #[.val (.ref a), .val (.int (-1)), .unset] [(.int (-1))] rfl ?_
    refine Wp.ifF ok_tag rfl rfl (show (-1) < (0 : Int32) from by decide) ?_
    refine Wp.run ok_tag 7 29 #[.val (.ref a), .val (.int (-1)), .val (.int (-1 : Int32))] [(.int ((-1) + (1 : Int32))), (.int (-1 : Int32))] rfl ?_
    refine Wp.icmpT ok_tag 43 rfl rfl (show ¬ ((-1) + (1 : Int32)) < (-1 : Int32) from by decide) (by decide) (by decide) ?_
    refine Wp.run ok_tag 1 44 #[.val (.ref a), .val (.int (-1)), .val (.int (-1 : Int32))] [.null] rfl ?_
    exact Wp.retA ok_tag (t := (.object "java/lang/String")) rfl rfl rfl rfl rfl ⟨rfl, rfl⟩
  · refine Wp.at #[.val (.ref a), .unset, .unset] [(.int (Int32.ofNat o))] ⟨rfl, (by rw [ixF_some h0] <;> rfl)⟩ ?_
    refine Wp.run ok_tag 2 8 #[.val (.ref a), .val (.int (Int32.ofNat o)), .unset] [(.int (Int32.ofNat o))] rfl ?_
    refine Wp.ifT ok_tag 15 rfl rfl (show ¬ (Int32.ofNat o) < (0 : Int32) from Int32.ofNat_not_neg (by omega)) (by decide) (by decide) ?_
    refine Wp.run ok_tag 5 21 #[.val (.ref a), .val (.int (Int32.ofNat o)), .unset] [(.int ((Int32.ofNat o) + (1 : Int32))), (.int (125 : Int32)), (.ref a)] rfl ?_
    refine Wp.at #[.val (.ref a), .val (.int (Int32.ofNat o)), .unset] [(.int (Int32.ofNat (o + 1))), (.int (125 : Int32)), (.ref a)] ⟨rfl, (by rw [n_succ] <;> rfl)⟩ ?_
    refine Wp.callV ok_tag (a := a) (argsL := [(.int (125 : Int32)), (.int (Int32.ofNat (o + 1)))]) (rest := []) (ct_ix2 G (i0 := o + 1) (show 0 ≤ (125 : Int32).toInt ∧ (125 : Int32).toInt ≤ 255 by decide) (by omega) h S1) S1.exa G.2.1 (G.1 _ (List.mem_of_getElem? (i := 94) rfl)) (G.1 _ (List.mem_of_getElem? (i := 58) rfl)) (G.1 _ (List.mem_of_getElem? (i := 60) rfl)) (G.1 _ (List.mem_of_getElem? (i := 59) rfl)) (G.1 _ (List.mem_of_getElem? (i := 11) rfl)) (G.1 _ (List.mem_of_getElem? (i := 61) rfl)) rfl rfl (by decide) pd_ix2 rfl rfl (Nat.le_of_ble_eq_true rfl) (Nat.le_of_ble_eq_true rfl) (Nat.le_of_ble_eq_true rfl) (Nat.le_of_ble_eq_true rfl) all0 ?_
    rintro _ _ ⟨rfl, rfl⟩ -
    rcases hr with hr | hr
    · refine Wp.at #[.val (.ref a), .val (.int (Int32.ofNat o)), .unset] [(.int (-1))] ⟨rfl, (by rw [ixF_none hr] <;> rfl)⟩ ?_
      refine Wp.run ok_tag 5 29 #[.val (.ref a), .val (.int (Int32.ofNat o)), .val (.int (-1))] [(.int ((Int32.ofNat o) + (1 : Int32))), (.int (-1))] rfl ?_
      refine Wp.at #[.val (.ref a), .val (.int (Int32.ofNat o)), .val (.int (-1))] [(.int (Int32.ofNat (o + 1))), (.int (-1))] ⟨rfl, (by rw [n_succ] <;> rfl)⟩ ?_
      refine Wp.icmpT ok_tag 43 rfl rfl (show ¬ (Int32.ofNat (o + 1)) < (-1) from fun z => absurd z (by rw [Int32.lt_iff_toInt_lt, n_int (by omega), show (-1 : Int32).toInt = -1 from by decide]; omega)) (by decide) (by decide) ?_
      refine Wp.run ok_tag 1 44 #[.val (.ref a), .val (.int (Int32.ofNat o)), .val (.int (-1))] [.null] rfl ?_
      exact Wp.retA ok_tag (t := (.object "java/lang/String")) rfl rfl rfl rfl rfl ⟨rfl, rfl⟩
    · refine Wp.at #[.val (.ref a), .val (.int (Int32.ofNat o)), .unset] [(.int (Int32.ofNat (o + 1)))] ⟨rfl, (by rw [ixF_some hr] <;> rfl)⟩ ?_
      refine Wp.run ok_tag 5 29 #[.val (.ref a), .val (.int (Int32.ofNat o)), .val (.int (Int32.ofNat (o + 1)))] [(.int ((Int32.ofNat o) + (1 : Int32))), (.int (Int32.ofNat (o + 1)))] rfl ?_
      refine Wp.at #[.val (.ref a), .val (.int (Int32.ofNat o)), .val (.int (Int32.ofNat (o + 1)))] [(.int (Int32.ofNat (o + 1))), (.int (Int32.ofNat (o + 1)))] ⟨rfl, (by rw [n_succ] <;> rfl)⟩ ?_
      refine Wp.icmpT ok_tag 43 rfl rfl (show ¬ (Int32.ofNat (o + 1)) < (Int32.ofNat (o + 1)) from Int32.lt_irrefl) (by decide) (by decide) ?_
      refine Wp.run ok_tag 1 44 #[.val (.ref a), .val (.int (Int32.ofNat o)), .val (.int (Int32.ofNat (o + 1)))] [.null] rfl ?_
      exact Wp.retA ok_tag (t := (.object "java/lang/String")) rfl rfl rfl rfl rfl ⟨rfl, rfl⟩

set_option maxRecDepth 65536 in
set_option maxHeartbeats 4000000 in
theorem ct_tagS {l : Launch} {Z : State} {a0 : Array Value} (G : Gd Z a0) {a : Addr} {ks : List Int32} {o c : Nat} (hT : tg ks = some (o, c)) (hcap : ks.length ≤ 16) (h : Heap) (S1 : Str Z h a ks) :
    Ct l Z EL1 mt_tag ({ frames := 5, cells := 2, slots := 20, locals := 80 } : Room) #[(.ref a)] h [] (fun v h' => ∃ d, v = some (.ref d) ∧ Ext h h' ∧ Str Z h' d ((ks.drop (o + 1)).take (c - (o + 1)))) := by
  refine Ct.of_wp pl_tag G.2.1 (Ls := #[.val (.ref a), .unset, .unset]) rfl ?_
  have h31 := S1.len
  obtain ⟨h0, h1, hoc, hcl, hol, -⟩ := tg_inv hT
  refine Wp.run ok_tag 2 3 #[.val (.ref a), .unset, .unset] [(.int (123 : Int32)), (.ref a)] rfl ?_
  refine Wp.callV ok_tag (a := a) (argsL := [(.int (123 : Int32))]) (rest := []) (ct_ix1 G (show 0 ≤ (123 : Int32).toInt ∧ (123 : Int32).toInt ≤ 255 by decide) h S1) S1.exa G.2.1 (G.1 _ (List.mem_of_getElem? (i := 52) rfl)) (G.1 _ (List.mem_of_getElem? (i := 53) rfl)) (G.1 _ (List.mem_of_getElem? (i := 55) rfl)) (G.1 _ (List.mem_of_getElem? (i := 54) rfl)) (G.1 _ (List.mem_of_getElem? (i := 11) rfl)) (G.1 _ (List.mem_of_getElem? (i := 56) rfl)) rfl rfl (by decide) pd_ix1 rfl rfl (Nat.le_of_ble_eq_true rfl) (Nat.le_of_ble_eq_true rfl) (Nat.le_of_ble_eq_true rfl) (Nat.le_of_ble_eq_true rfl) all0 ?_
  rintro _ _ ⟨rfl, rfl⟩ -
  refine Wp.at #[.val (.ref a), .unset, .unset] [(.int (Int32.ofNat o))] ⟨rfl, (by rw [ixF_some h0] <;> rfl)⟩ ?_
  refine Wp.run ok_tag 2 8 #[.val (.ref a), .val (.int (Int32.ofNat o)), .unset] [(.int (Int32.ofNat o))] rfl ?_
  refine Wp.ifT ok_tag 15 rfl rfl (show ¬ (Int32.ofNat o) < (0 : Int32) from Int32.ofNat_not_neg (by omega)) (by decide) (by decide) ?_
  refine Wp.run ok_tag 5 21 #[.val (.ref a), .val (.int (Int32.ofNat o)), .unset] [(.int ((Int32.ofNat o) + (1 : Int32))), (.int (125 : Int32)), (.ref a)] rfl ?_
  refine Wp.at #[.val (.ref a), .val (.int (Int32.ofNat o)), .unset] [(.int (Int32.ofNat (o + 1))), (.int (125 : Int32)), (.ref a)] ⟨rfl, (by rw [n_succ] <;> rfl)⟩ ?_
  refine Wp.callV ok_tag (a := a) (argsL := [(.int (125 : Int32)), (.int (Int32.ofNat (o + 1)))]) (rest := []) (ct_ix2 G (i0 := o + 1) (show 0 ≤ (125 : Int32).toInt ∧ (125 : Int32).toInt ≤ 255 by decide) (by omega) h S1) S1.exa G.2.1 (G.1 _ (List.mem_of_getElem? (i := 94) rfl)) (G.1 _ (List.mem_of_getElem? (i := 58) rfl)) (G.1 _ (List.mem_of_getElem? (i := 60) rfl)) (G.1 _ (List.mem_of_getElem? (i := 59) rfl)) (G.1 _ (List.mem_of_getElem? (i := 11) rfl)) (G.1 _ (List.mem_of_getElem? (i := 61) rfl)) rfl rfl (by decide) pd_ix2 rfl rfl (Nat.le_of_ble_eq_true rfl) (Nat.le_of_ble_eq_true rfl) (Nat.le_of_ble_eq_true rfl) (Nat.le_of_ble_eq_true rfl) all0 ?_
  rintro _ _ ⟨rfl, rfl⟩ -
  refine Wp.at #[.val (.ref a), .val (.int (Int32.ofNat o)), .unset] [(.int (Int32.ofNat c))] ⟨rfl, (by rw [ixF_some h1] <;> rfl)⟩ ?_
  refine Wp.run ok_tag 5 29 #[.val (.ref a), .val (.int (Int32.ofNat o)), .val (.int (Int32.ofNat c))] [(.int ((Int32.ofNat o) + (1 : Int32))), (.int (Int32.ofNat c))] rfl ?_
  refine Wp.at #[.val (.ref a), .val (.int (Int32.ofNat o)), .val (.int (Int32.ofNat c))] [(.int (Int32.ofNat (o + 1))), (.int (Int32.ofNat c))] ⟨rfl, (by rw [n_succ] <;> rfl)⟩ ?_
  refine Wp.icmpF ok_tag rfl rfl (show (Int32.ofNat (o + 1)) < (Int32.ofNat c) from (n_lt (by omega) (by omega)).mpr hoc) ?_
  refine Wp.run ok_tag 5 37 #[.val (.ref a), .val (.int (Int32.ofNat o)), .val (.int (Int32.ofNat c))] [(.int (Int32.ofNat c)), (.int ((Int32.ofNat o) + (1 : Int32))), (.ref a)] rfl ?_
  refine Wp.at #[.val (.ref a), .val (.int (Int32.ofNat o)), .val (.int (Int32.ofNat c))] [(.int (Int32.ofNat c)), (.int (Int32.ofNat (o + 1))), (.ref a)] ⟨rfl, (by rw [n_succ] <;> rfl)⟩ ?_
  refine Wp.callV ok_tag (a := a) (argsL := [(.int (Int32.ofNat (o + 1))), (.int (Int32.ofNat c))]) (rest := []) (ct_sub G (i := o + 1) (j := c) (by omega) (by omega) hcap (by omega) h S1) S1.exa G.2.1 (G.1 _ (List.mem_of_getElem? (i := 226) rfl)) (G.1 _ (List.mem_of_getElem? (i := 227) rfl)) (G.1 _ (List.mem_of_getElem? (i := 229) rfl)) (G.1 _ (List.mem_of_getElem? (i := 228) rfl)) (G.1 _ (List.mem_of_getElem? (i := 11) rfl)) (G.1 _ (List.mem_of_getElem? (i := 230) rfl)) rfl rfl (by decide) pd_sub rfl rfl (Nat.le_of_ble_eq_true rfl) (Nat.le_of_ble_eq_true rfl) (Nat.le_of_ble_eq_true rfl) (Nat.le_of_ble_eq_true rfl) all0 ?_
  rintro _ h1 ⟨d, rfl, E1, T1⟩ -
  refine Wp.run ok_tag 1 44 #[.val (.ref a), .val (.int (Int32.ofNat o)), .val (.int (Int32.ofNat c))] [(.ref d)] rfl ?_
  exact Wp.retA ok_tag (t := (.object "java/lang/String")) rfl rfl rfl rfl rfl ⟨d, rfl, E1, T1⟩

abbrev mt_tgd : Mth := (⟨"holdfast/HashSlot", "tagged", "(Ljava/lang/String;)Z"⟩, prog_2_method_6_code, 1, some .boolean)
def tb_tgd : Tab := [(0, .aload_n 0, 1), (1, .invokestatic 74, 3), (4, .ifnull 7, 3), (7, .iconst 1, 1), (8, .goto 4, 3), (11, .iconst 0, 1), (12, .ireturn, 1)]
theorem ok_tgd : TabOk mt_tgd.2.1 tb_tgd := by
  intro x hx
  have q : tb_tgd.all (fun x => decide (decode prog_2_method_6_code x.1 = .ok x.2)) = true := by decide +kernel
  exact of_decide_eq_true (List.all_eq_true.mp q x hx)
theorem pl_tgd : plainFor mt_tgd.1 = true := by first | decide +kernel | exact plainFor_of_name (by first | (simp [plainName, overriddenIn]; done) | decide +kernel)
theorem pd_tgd : parseMethodDescriptor "(Ljava/lang/String;)Z" = some ⟨[(.object "java/lang/String")], some .boolean⟩ := by decide +kernel

set_option maxRecDepth 65536 in
set_option maxHeartbeats 4000000 in
theorem ct_tgd {l : Launch} {Z : State} {a0 : Array Value} (G : Gd Z a0) {a : Addr} {ks : List Int32} (hcap : ks.length ≤ 16) (h : Heap) (S1 : Str Z h a ks) :
    Ct l Z EL1 mt_tgd ({ frames := 6, cells := 2, slots := 20, locals := 94 } : Room) #[(.ref a)] h [] (fun v h' => v = some (.int (if (tg ks).isSome = true then 1 else 0)) ∧ Ext h h') := by
  refine Ct.of_wp pl_tgd G.2.1 (Ls := #[.val (.ref a)]) rfl ?_
  rcases hT : tg ks with _ | ⟨o, c⟩
  · refine Wp.run ok_tgd 1 1 #[.val (.ref a)] [(.ref a)] rfl ?_
    refine Wp.callS ok_tgd (argsL := [(.ref a)]) (rest := []) (ct_tagN G hT h S1) G.2.1 (G.1 _ (List.mem_of_getElem? (i := 49) rfl)) (G.1 _ (List.mem_of_getElem? (i := 50) rfl)) (G.1 _ (List.mem_of_getElem? (i := 44) rfl)) (G.1 _ (List.mem_of_getElem? (i := 51) rfl)) rfl rfl (by decide) pd_tag rfl rfl (Nat.le_of_ble_eq_true rfl) (Nat.le_of_ble_eq_true rfl) (Nat.le_of_ble_eq_true rfl) (Nat.le_of_ble_eq_true rfl) all0 ?_
    rintro _ _ ⟨rfl, rfl⟩ -
    refine Wp.nullT ok_tgd 11 rfl rfl (by decide) (by decide) ?_
    refine Wp.run ok_tgd 1 12 #[.val (.ref a)] [(.int (0 : Int32))] rfl ?_
    exact Wp.retI ok_tgd (t := .boolean) rfl (by decide) rfl rfl rfl ⟨rfl, ext_refl h⟩
  · refine Wp.run ok_tgd 1 1 #[.val (.ref a)] [(.ref a)] rfl ?_
    refine Wp.callS ok_tgd (argsL := [(.ref a)]) (rest := []) (ct_tagS G hT hcap h S1) G.2.1 (G.1 _ (List.mem_of_getElem? (i := 49) rfl)) (G.1 _ (List.mem_of_getElem? (i := 50) rfl)) (G.1 _ (List.mem_of_getElem? (i := 44) rfl)) (G.1 _ (List.mem_of_getElem? (i := 51) rfl)) rfl rfl (by decide) pd_tag rfl rfl (Nat.le_of_ble_eq_true rfl) (Nat.le_of_ble_eq_true rfl) (Nat.le_of_ble_eq_true rfl) (Nat.le_of_ble_eq_true rfl) all0 ?_
    rintro _ h1 ⟨d, rfl, E1, -⟩ -
    refine Wp.nullF ok_tgd rfl rfl ?_
    refine Wp.run ok_tgd 2 12 #[.val (.ref a)] [(.int (1 : Int32))] rfl ?_
    exact Wp.retI ok_tgd (t := .boolean) rfl (by decide) rfl rfl rfl ⟨rfl, E1⟩

abbrev mt_rmb : Mth := (⟨"holdfast/HashSlot", "roomBeside", "(Ljava/lang/String;)Z"⟩, prog_2_method_3_code, 1, some .boolean)
def tb_rmb : Tab := [(0, .aload_n 0, 1), (1, .invokestatic 27, 3), (4, .ifCond .ne 19, 3), (7, .aload_n 0, 1), (8, .invokevirtual 31, 3), (11, .ifCond .ne 16, 3), (14, .aload_n 0, 1), (15, .bipush 125, 2), (17, .invokevirtual 35, 3), (20, .ifCond .ge 7, 3), (23, .iconst 1, 1), (24, .goto 4, 3), (27, .iconst 0, 1), (28, .ireturn, 1)]
theorem ok_rmb : TabOk mt_rmb.2.1 tb_rmb := by
  intro x hx
  have q : tb_rmb.all (fun x => decide (decode prog_2_method_3_code x.1 = .ok x.2)) = true := by decide +kernel
  exact of_decide_eq_true (List.all_eq_true.mp q x hx)
theorem pl_rmb : plainFor mt_rmb.1 = true := by first | decide +kernel | exact plainFor_of_name (by first | (simp [plainName, overriddenIn]; done) | decide +kernel)
theorem pd_rmb : parseMethodDescriptor "(Ljava/lang/String;)Z" = some ⟨[(.object "java/lang/String")], some .boolean⟩ := by decide +kernel

set_option maxRecDepth 65536 in
set_option maxHeartbeats 4000000 in
theorem ct_rmb {l : Launch} {Z : State} {a0 : Array Value} (G : Gd Z a0) {a : Addr} {ks : List Int32} (hcap : ks.length ≤ 16) (h : Heap) (S1 : Str Z h a ks) :
    Ct l Z EL1 mt_rmb ({ frames := 7, cells := 2, slots := 20, locals := 106 } : Room) #[(.ref a)] h [] (fun v h' => v = some (.int (if (tg ks).isSome = true ∨ (ks ≠ [] ∧ fx ks 125 0 = none) then 1 else 0)) ∧ Ext h h') := by
  refine Ct.of_wp pl_rmb G.2.1 (Ls := #[.val (.ref a)]) rfl ?_
  have h31 := S1.len
  refine Wp.run ok_rmb 1 1 #[.val (.ref a)] [(.ref a)] rfl ?_
  refine Wp.callS ok_rmb (argsL := [(.ref a)]) (rest := []) (ct_tgd G hcap h S1) G.2.1 (G.1 _ (List.mem_of_getElem? (i := 46) rfl)) (G.1 _ (List.mem_of_getElem? (i := 47) rfl)) (G.1 _ (List.mem_of_getElem? (i := 44) rfl)) (G.1 _ (List.mem_of_getElem? (i := 48) rfl)) rfl rfl (by decide) pd_tgd rfl rfl (Nat.le_of_ble_eq_true rfl) (Nat.le_of_ble_eq_true rfl) (Nat.le_of_ble_eq_true rfl) (Nat.le_of_ble_eq_true rfl) all0 ?_
  rintro _ h1 ⟨rfl, E1⟩ -
  by_cases hT : (tg ks).isSome = true
  · refine Wp.at #[.val (.ref a)] [(.int 1)] ⟨rfl, (by rw [if_pos hT] <;> rfl)⟩ ?_
    refine Wp.ifT ok_rmb 23 rfl rfl (show ¬ 1 = (0 : Int32) from by decide) (by decide) (by decide) ?_
    refine Wp.run ok_rmb 2 28 #[.val (.ref a)] [(.int (1 : Int32))] rfl ?_
    exact Wp.retI ok_rmb (t := .boolean) rfl (by decide) rfl rfl rfl ⟨by rw [if_pos (Or.inl hT)], E1⟩
  · refine Wp.at #[.val (.ref a)] [(.int 0)] ⟨rfl, (by rw [if_neg hT] <;> rfl)⟩ ?_
    refine Wp.ifF ok_rmb rfl rfl (show 0 = (0 : Int32) from rfl) ?_
    refine Wp.run ok_rmb 1 8 #[.val (.ref a)] [(.ref a)] rfl ?_
    refine Wp.callV ok_rmb (a := a) (argsL := []) (rest := []) (ct_emp G h1 (S1.ext E1)) (S1.ext E1).exa G.2.1 (G.1 _ (List.mem_of_getElem? (i := 98) rfl)) (G.1 _ (List.mem_of_getElem? (i := 99) rfl)) (G.1 _ (List.mem_of_getElem? (i := 101) rfl)) (G.1 _ (List.mem_of_getElem? (i := 100) rfl)) (G.1 _ (List.mem_of_getElem? (i := 11) rfl)) (G.1 _ (List.mem_of_getElem? (i := 102) rfl)) rfl rfl (by decide) pd_emp rfl rfl (Nat.le_of_ble_eq_true rfl) (Nat.le_of_ble_eq_true rfl) (Nat.le_of_ble_eq_true rfl) (Nat.le_of_ble_eq_true rfl) all0 ?_
    rintro _ _ ⟨rfl, rfl⟩ -
    by_cases hE : ks = []
    · refine Wp.at #[.val (.ref a)] [(.int 1)] ⟨rfl, (by rw [if_pos hE] <;> rfl)⟩ ?_
      refine Wp.ifT ok_rmb 27 rfl rfl (show ¬ 1 = (0 : Int32) from by decide) (by decide) (by decide) ?_
      refine Wp.run ok_rmb 1 28 #[.val (.ref a)] [(.int (0 : Int32))] rfl ?_
      exact Wp.retI ok_rmb (t := .boolean) rfl (by decide) rfl rfl rfl ⟨by rw [if_neg (fun z => z.elim hT (fun y => y.1 hE))], E1⟩
    · refine Wp.at #[.val (.ref a)] [(.int 0)] ⟨rfl, (by rw [if_neg hE] <;> rfl)⟩ ?_
      refine Wp.ifF ok_rmb rfl rfl (show 0 = (0 : Int32) from rfl) ?_
      refine Wp.run ok_rmb 2 17 #[.val (.ref a)] [(.int (125 : Int32)), (.ref a)] rfl ?_
      refine Wp.callV ok_rmb (a := a) (argsL := [(.int (125 : Int32))]) (rest := []) (ct_ix1 G (show 0 ≤ (125 : Int32).toInt ∧ (125 : Int32).toInt ≤ 255 by decide) h1 (S1.ext E1)) (S1.ext E1).exa G.2.1 (G.1 _ (List.mem_of_getElem? (i := 52) rfl)) (G.1 _ (List.mem_of_getElem? (i := 53) rfl)) (G.1 _ (List.mem_of_getElem? (i := 55) rfl)) (G.1 _ (List.mem_of_getElem? (i := 54) rfl)) (G.1 _ (List.mem_of_getElem? (i := 11) rfl)) (G.1 _ (List.mem_of_getElem? (i := 56) rfl)) rfl rfl (by decide) pd_ix1 rfl rfl (Nat.le_of_ble_eq_true rfl) (Nat.le_of_ble_eq_true rfl) (Nat.le_of_ble_eq_true rfl) (Nat.le_of_ble_eq_true rfl) all0 ?_
      rintro _ _ ⟨rfl, rfl⟩ -
      rcases fx_spec 125 ks 0 with ⟨i, e1, e2, -⟩ | ⟨e1, -⟩
      · have hil := (List.getElem?_eq_some_iff.mp e2).1
        refine Wp.at #[.val (.ref a)] [(.int (Int32.ofNat (0 + i)))] ⟨rfl, (by rw [ixF_some e1] <;> rfl)⟩ ?_
        refine Wp.ifT ok_rmb 27 rfl rfl (show ¬ (Int32.ofNat (0 + i)) < (0 : Int32) from Int32.ofNat_not_neg (by omega)) (by decide) (by decide) ?_
        refine Wp.run ok_rmb 1 28 #[.val (.ref a)] [(.int (0 : Int32))] rfl ?_
        exact Wp.retI ok_rmb (t := .boolean) rfl (by decide) rfl rfl rfl ⟨by rw [if_neg (fun z => z.elim hT (fun y => by rw [e1] at y; cases y.2))], E1⟩
      · refine Wp.at #[.val (.ref a)] [(.int (-1))] ⟨rfl, (by rw [ixF_none e1] <;> rfl)⟩ ?_
        refine Wp.ifF ok_rmb rfl rfl (show (-1) < (0 : Int32) from by decide) ?_
        refine Wp.run ok_rmb 2 28 #[.val (.ref a)] [(.int (1 : Int32))] rfl ?_
        exact Wp.retI ok_rmb (t := .boolean) rfl (by decide) rfl rfl rfl ⟨by rw [if_pos (Or.inr ⟨hE, e1⟩)], E1⟩

abbrev mt_drw : Mth := (⟨"holdfast/HashSlotBesidePinLaw", "draw", "(JI)C"⟩, method_3_code, 5, some .char)
def tb_drw : Tab := [(0, .lload_n 0, 1), (1, .bipush 10, 2), (3, .iload_n 2, 1), (4, .imul, 1), (5, .lushr, 1), (6, .ldc2_w 34, 3), (9, .land, 1), (10, .l2i, 1), (11, .istore_n 3, 1), (12, .iload_n 3, 1), (13, .iconst 3, 1), (14, .iand, 1), (15, .istore 4, 2), (17, .iload 4, 2), (19, .ifCond .ne 6, 3), (22, .bipush 123, 2), (24, .ireturn, 1), (25, .iload 4, 2), (27, .iconst 1, 1), (28, .if_icmp .ne 6, 3), (31, .bipush 125, 2), (33, .ireturn, 1), (34, .iload_n 3, 1), (35, .iconst 2, 1), (36, .iushr, 1), (37, .sipush 255, 3), (40, .iand, 1), (41, .i2c, 1), (42, .ireturn, 1)]
theorem ok_drw : TabOk mt_drw.2.1 tb_drw := by
  intro x hx
  have q : tb_drw.all (fun x => decide (decode method_3_code x.1 = .ok x.2)) = true := by decide +kernel
  exact of_decide_eq_true (List.all_eq_true.mp q x hx)
theorem pl_drw : plainFor mt_drw.1 = true := by first | decide +kernel | exact plainFor_of_name (by first | (simp [plainName, overriddenIn]; done) | decide +kernel)
theorem pd_drw : parseMethodDescriptor "(JI)C" = some ⟨[.long, .int], some .char⟩ := by decide +kernel

set_option maxRecDepth 65536 in
set_option maxHeartbeats 4000000 in
theorem ct_drw {l : Launch} {Z : State} {a0 : Array Value} (G : Gd Z a0) {x : Int64} {i : Int32} (h : Heap)  :
    Ct l Z EL1 mt_drw ({ frames := 0, cells := 0, slots := 0, locals := 0 } : Room) #[(.long x), (.int i)] h [] (fun v h' => ∃ c, v = some (.int c) ∧ h = h' ∧ 0 ≤ c.toInt ∧ c.toInt ≤ 255) := by
  refine Ct.of_wp pl_drw G.2.1 (Ls := #[.val (.long x), .second, .val (.int i), .unset, .unset]) rfl ?_
  refine Wp.run ok_drw 5 6 #[.val (.long x), .second, .val (.int i), .unset, .unset] [(.long (Jvm.Free.XT.ushrL x ((10 : Int32) * i)))] rfl ?_
  refine Wp.ldcL ok_drw (G.1 _ (List.mem_of_getElem? (i := 5) rfl)) rfl ?_
  refine Wp.run ok_drw 8 19 #[.val (.long x), .second, .val (.int i), .val (.int (((Jvm.Free.XT.ushrL x ((10 : Int32) * i)) &&& (1023 : Int64)).toInt32)), .val (.int ((((Jvm.Free.XT.ushrL x ((10 : Int32) * i)) &&& (1023 : Int64)).toInt32) &&& (3 : Int32)))] [(.int ((((Jvm.Free.XT.ushrL x ((10 : Int32) * i)) &&& (1023 : Int64)).toInt32) &&& (3 : Int32)))] rfl ?_
  refine Wp.if0 ok_drw 25 rfl rfl (by decide) (by decide) (fun hc => ?_) (fun hc => ?_)
  · replace hc : ¬ ((((Jvm.Free.XT.ushrL x ((10 : Int32) * i)) &&& (1023 : Int64)).toInt32) &&& (3 : Int32)) = (0 : Int32) := hc
    refine Wp.run ok_drw 2 28 #[.val (.long x), .second, .val (.int i), .val (.int (((Jvm.Free.XT.ushrL x ((10 : Int32) * i)) &&& (1023 : Int64)).toInt32)), .val (.int ((((Jvm.Free.XT.ushrL x ((10 : Int32) * i)) &&& (1023 : Int64)).toInt32) &&& (3 : Int32)))] [(.int (1 : Int32)), (.int ((((Jvm.Free.XT.ushrL x ((10 : Int32) * i)) &&& (1023 : Int64)).toInt32) &&& (3 : Int32)))] rfl ?_
    refine Wp.icmp ok_drw 34 rfl rfl (by decide) (by decide) (fun hd => ?_) (fun hd => ?_)
    · replace hd : ¬ ((((Jvm.Free.XT.ushrL x ((10 : Int32) * i)) &&& (1023 : Int64)).toInt32) &&& (3 : Int32)) = (1 : Int32) := hd
      refine Wp.run ok_drw 6 42 #[.val (.long x), .second, .val (.int i), .val (.int (((Jvm.Free.XT.ushrL x ((10 : Int32) * i)) &&& (1023 : Int64)).toInt32)), .val (.int ((((Jvm.Free.XT.ushrL x ((10 : Int32) * i)) &&& (1023 : Int64)).toInt32) &&& (3 : Int32)))] [(.int (c16 ((ush (((Jvm.Free.XT.ushrL x ((10 : Int32) * i)) &&& (1023 : Int64)).toInt32) (2 : Int32)) &&& (255 : Int32))))] rfl ?_
      refine Wp.at #[.val (.long x), .second, .val (.int i), .val (.int (((Jvm.Free.XT.ushrL x ((10 : Int32) * i)) &&& (1023 : Int64)).toInt32)), .val (.int ((((Jvm.Free.XT.ushrL x ((10 : Int32) * i)) &&& (1023 : Int64)).toInt32) &&& (3 : Int32)))] [(.int ((ush (((Jvm.Free.XT.ushrL x ((10 : Int32) * i)) &&& (1023 : Int64)).toInt32) (2 : Int32)) &&& (255 : Int32)))] ⟨rfl, (by rw [c16_lat (and255 _)] <;> rfl)⟩ ?_
      exact Wp.retI ok_drw (t := .char) rfl (by decide) rfl rfl (fitc (and255 _)) ⟨_, rfl, rfl, and255 _⟩
    · replace hd : ((((Jvm.Free.XT.ushrL x ((10 : Int32) * i)) &&& (1023 : Int64)).toInt32) &&& (3 : Int32)) = (1 : Int32) := hd
      refine Wp.run ok_drw 1 33 #[.val (.long x), .second, .val (.int i), .val (.int (((Jvm.Free.XT.ushrL x ((10 : Int32) * i)) &&& (1023 : Int64)).toInt32)), .val (.int ((((Jvm.Free.XT.ushrL x ((10 : Int32) * i)) &&& (1023 : Int64)).toInt32) &&& (3 : Int32)))] [(.int (125 : Int32))] rfl ?_
      exact Wp.retI ok_drw (t := .char) rfl (by decide) rfl rfl rfl ⟨_, rfl, rfl, by decide⟩
  · replace hc : ((((Jvm.Free.XT.ushrL x ((10 : Int32) * i)) &&& (1023 : Int64)).toInt32) &&& (3 : Int32)) = (0 : Int32) := hc
    refine Wp.run ok_drw 1 24 #[.val (.long x), .second, .val (.int i), .val (.int (((Jvm.Free.XT.ushrL x ((10 : Int32) * i)) &&& (1023 : Int64)).toInt32)), .val (.int ((((Jvm.Free.XT.ushrL x ((10 : Int32) * i)) &&& (1023 : Int64)).toInt32) &&& (3 : Int32)))] [(.int (123 : Int32))] rfl ?_
    exact Wp.retI ok_drw (t := .char) rfl (by decide) rfl rfl rfl ⟨_, rfl, rfl, by decide⟩

abbrev mt_mak : Mth := (⟨"holdfast/HashSlotBesidePinLaw", "make", "(ICCCC)Ljava/lang/String;"⟩, method_4_code, 5, some (.object "java/lang/String"))
def tb_mak : Tab := [(0, .iload_n 0, 1), (1, .ifCond .ne 14, 3), (4, .new 25, 3), (7, .dup, 1), (8, .iconst 0, 1), (9, .newarray .char, 2), (11, .invokespecial 36, 3), (14, .areturn, 1), (15, .iload_n 0, 1), (16, .iconst 1, 1), (17, .if_icmp .ne 18, 3), (20, .new 25, 3), (23, .dup, 1), (24, .iconst 1, 1), (25, .newarray .char, 2), (27, .dup, 1), (28, .iconst 0, 1), (29, .iload_n 1, 1), (30, .castore, 1), (31, .invokespecial 36, 3), (34, .areturn, 1), (35, .iload_n 0, 1), (36, .iconst 2, 1), (37, .if_icmp .ne 22, 3), (40, .new 25, 3), (43, .dup, 1), (44, .iconst 2, 1), (45, .newarray .char, 2), (47, .dup, 1), (48, .iconst 0, 1), (49, .iload_n 1, 1), (50, .castore, 1), (51, .dup, 1), (52, .iconst 1, 1), (53, .iload_n 2, 1), (54, .castore, 1), (55, .invokespecial 36, 3), (58, .areturn, 1), (59, .iload_n 0, 1), (60, .iconst 3, 1), (61, .if_icmp .ne 26, 3), (64, .new 25, 3), (67, .dup, 1), (68, .iconst 3, 1), (69, .newarray .char, 2), (71, .dup, 1), (72, .iconst 0, 1), (73, .iload_n 1, 1), (74, .castore, 1), (75, .dup, 1), (76, .iconst 1, 1), (77, .iload_n 2, 1), (78, .castore, 1), (79, .dup, 1), (80, .iconst 2, 1), (81, .iload_n 3, 1), (82, .castore, 1), (83, .invokespecial 36, 3), (86, .areturn, 1), (87, .new 25, 3), (90, .dup, 1), (91, .iconst 4, 1), (92, .newarray .char, 2), (94, .dup, 1), (95, .iconst 0, 1), (96, .iload_n 1, 1), (97, .castore, 1), (98, .dup, 1), (99, .iconst 1, 1), (100, .iload_n 2, 1), (101, .castore, 1), (102, .dup, 1), (103, .iconst 2, 1), (104, .iload_n 3, 1), (105, .castore, 1), (106, .dup, 1), (107, .iconst 3, 1), (108, .iload 4, 2), (110, .castore, 1), (111, .invokespecial 36, 3), (114, .areturn, 1)]
theorem ok_mak : TabOk mt_mak.2.1 tb_mak := by
  intro x hx
  have q : tb_mak.all (fun x => decide (decode method_4_code x.1 = .ok x.2)) = true := by decide +kernel
  exact of_decide_eq_true (List.all_eq_true.mp q x hx)
theorem pl_mak : plainFor mt_mak.1 = true := by first | decide +kernel | exact plainFor_of_name (by first | (simp [plainName, overriddenIn]; done) | decide +kernel)
theorem pd_mak : parseMethodDescriptor "(ICCCC)Ljava/lang/String;" = some ⟨[.int, .char, .char, .char, .char], some (.object "java/lang/String")⟩ := by decide +kernel

set_option maxRecDepth 65536 in
set_option maxHeartbeats 4000000 in
theorem ct_mak {l : Launch} {Z : State} {a0 : Array Value} (G : Gd Z a0) {k : Nat} (hk : k ≤ 4) {c0 c1 c2 c3 : Int32} (L0 : 0 ≤ c0.toInt ∧ c0.toInt ≤ 255) (L1 : 0 ≤ c1.toInt ∧ c1.toInt ≤ 255) (L2 : 0 ≤ c2.toInt ∧ c2.toInt ≤ 255) (L3 : 0 ≤ c3.toInt ∧ c3.toInt ≤ 255) (h : Heap)  :
    Ct l Z EL1 mt_mak ({ frames := 4, cells := 6, slots := 24, locals := 66 } : Room) #[(.int (Int32.ofNat k)), (.int c0), (.int c1), (.int c2), (.int c3)] h [] (fun v h' => ∃ a, v = some (.ref a) ∧ Ext h h' ∧ Str Z h' a ([c0, c1, c2, c3].take k)) := by
  refine Ct.of_wp pl_mak G.2.1 (Ls := #[.val (.int (Int32.ofNat k)), .val (.int c0), .val (.int c1), .val (.int c2), .val (.int c3)]) rfl ?_
  refine Wp.run ok_mak 1 1 #[.val (.int (Int32.ofNat k)), .val (.int c0), .val (.int c1), .val (.int c2), .val (.int c3)] [(.int (Int32.ofNat k))] rfl ?_
  refine Wp.if0 ok_mak 15 rfl rfl (by decide) (by decide) (fun hk0 => ?_) (fun hk0 => ?_)
  · replace hk0 : ¬ (Int32.ofNat k) = (0 : Int32) := hk0
    have n0 : k ≠ 0 := fun e => hk0 (by rw [e]; rfl)
    refine Wp.run ok_mak 2 17 #[.val (.int (Int32.ofNat k)), .val (.int c0), .val (.int c1), .val (.int c2), .val (.int c3)] [(.int (1 : Int32)), (.int (Int32.ofNat k))] rfl ?_
    refine Wp.icmp ok_mak 35 rfl rfl (by decide) (by decide) (fun hk1 => ?_) (fun hk1 => ?_)
    · replace hk1 : ¬ (Int32.ofNat k) = (1 : Int32) := hk1
      have n1 : k ≠ 1 := fun e => hk1 (by rw [e]; rfl)
      refine Wp.run ok_mak 2 37 #[.val (.int (Int32.ofNat k)), .val (.int c0), .val (.int c1), .val (.int c2), .val (.int c3)] [(.int (2 : Int32)), (.int (Int32.ofNat k))] rfl ?_
      refine Wp.icmp ok_mak 59 rfl rfl (by decide) (by decide) (fun hk2 => ?_) (fun hk2 => ?_)
      · replace hk2 : ¬ (Int32.ofNat k) = (2 : Int32) := hk2
        have n2 : k ≠ 2 := fun e => hk2 (by rw [e]; rfl)
        refine Wp.run ok_mak 2 61 #[.val (.int (Int32.ofNat k)), .val (.int c0), .val (.int c1), .val (.int c2), .val (.int c3)] [(.int (3 : Int32)), (.int (Int32.ofNat k))] rfl ?_
        refine Wp.icmp ok_mak 87 rfl rfl (by decide) (by decide) (fun hk3 => ?_) (fun hk3 => ?_)
        · replace hk3 : ¬ (Int32.ofNat k) = (3 : Int32) := hk3
          have n3 : k ≠ 3 := fun e => hk3 (by rw [e]; rfl)
          obtain rfl : k = 4 := by omega
          refine Wp.new ok_mak (G.1 _ (List.mem_of_getElem? (i := 9) rfl)) (G.1 _ (List.mem_of_getElem? (i := 10) rfl)) (G.1 _ (List.mem_of_getElem? (i := 11) rfl)) rfl (Nat.le_of_ble_eq_true rfl) (Nat.le_of_ble_eq_true rfl) ?_
          intro hn En Xn D_hn
          have F1_hn : Fld Z hn h.size "java/lang/String" "coder" "B" (.int 0) := D_hn (Or.inr (G.1 _ (List.mem_of_getElem? (i := 36) rfl))) (ty := .byte) (by decide)
          have F2_hn : Fld Z hn h.size "java/lang/String" "value" "[B" .null := D_hn (Or.inr (G.1 _ (List.mem_of_getElem? (i := 38) rfl))) (ty := .array .byte) (by decide)
          refine Wp.run ok_mak 2 92 #[.val (.int (Int32.ofNat 4)), .val (.int c0), .val (.int c1), .val (.int c2), .val (.int c3)] [(.int (4 : Int32)), (.ref h.size), (.ref h.size)] rfl ?_
          refine Wp.newP ok_mak (len := 4) (cap := 4) (G.1 _ (List.mem_of_getElem? (i := 12) rfl)) rfl rfl rfl (Nat.le_of_ble_eq_true rfl) (Nat.le_of_ble_eq_true rfl) (Nat.le_of_ble_eq_true rfl) (Nat.le_of_ble_eq_true rfl) ?_
          intro hm Em Am
          refine Wp.run ok_mak 3 97 #[.val (.int (Int32.ofNat 4)), .val (.int c0), .val (.int c1), .val (.int c2), .val (.int c3)] [(.int c0), (.int (0 : Int32)), (.ref hn.size), (.ref hn.size), (.ref h.size), (.ref h.size)] rfl ?_
          refine Wp.aput ok_mak Am (List.mem_of_getElem? (i := 0) rfl) (i := 0) rfl (Nat.le_of_ble_eq_true rfl) rfl (fitc L0) rfl rfl rfl ?_
          intro hq1 wq2 Aq3
          refine Wp.run ok_mak 3 101 #[.val (.int (Int32.ofNat 4)), .val (.int c0), .val (.int c1), .val (.int c2), .val (.int c3)] [(.int c1), (.int (1 : Int32)), (.ref hn.size), (.ref hn.size), (.ref h.size), (.ref h.size)] rfl ?_
          refine Wp.aput ok_mak Aq3 (List.mem_of_getElem? (i := 0) rfl) (i := 1) rfl (Nat.le_of_ble_eq_true rfl) rfl (fitc L1) rfl rfl rfl ?_
          intro hq4 wq5 Aq6
          refine Wp.run ok_mak 3 105 #[.val (.int (Int32.ofNat 4)), .val (.int c0), .val (.int c1), .val (.int c2), .val (.int c3)] [(.int c2), (.int (2 : Int32)), (.ref hn.size), (.ref hn.size), (.ref h.size), (.ref h.size)] rfl ?_
          refine Wp.aput ok_mak Aq6 (List.mem_of_getElem? (i := 0) rfl) (i := 2) rfl (Nat.le_of_ble_eq_true rfl) rfl (fitc L2) rfl rfl rfl ?_
          intro hq7 wq8 Aq9
          refine Wp.run ok_mak 3 110 #[.val (.int (Int32.ofNat 4)), .val (.int c0), .val (.int c1), .val (.int c2), .val (.int c3)] [(.int c3), (.int (3 : Int32)), (.ref hn.size), (.ref hn.size), (.ref h.size), (.ref h.size)] rfl ?_
          refine Wp.aput ok_mak Aq9 (List.mem_of_getElem? (i := 0) rfl) (i := 3) rfl (Nat.le_of_ble_eq_true rfl) rfl (fitc L3) rfl rfl rfl ?_
          intro hq10 wq11 Aq12
          have Kn : Keep hm hq10 [hn.size] := (((((Keep.refl hm [hn.size]).trans (wr_keep wq2) (fun x hx => Or.inl hx)).trans (wr_keep wq5) (fun x hx => Or.inl hx)).trans (wr_keep wq8) (fun x hx => Or.inl hx)).trans (wr_keep wq11) (fun x hx => Or.inl hx))
          have nn : h.size ∉ [hn.size] := ninS (Nat.ne_of_lt Xn.lt) nin0
          have ln : Lat [c0, c1, c2, c3] := Lat.cons L0 (Lat.cons L1 (Lat.cons L2 (Lat.cons L3 (Lat.nil))))
          refine Wp.callI ok_mak (a := h.size) (argsL := [(.ref hn.size)]) (rest := [(.ref h.size)]) (ct_si1 G ln (Nat.le_of_ble_eq_true rfl) hq10 ((Xn.ext Em).keep Kn) ((F1_hn.ext Em).keep Kn nn) ((F2_hn.ext Em).keep Kn nn) Aq12) G.2.1 (G.1 _ (List.mem_of_getElem? (i := 13) rfl)) (G.1 _ (List.mem_of_getElem? (i := 14) rfl)) (G.1 _ (List.mem_of_getElem? (i := 11) rfl)) (G.1 _ (List.mem_of_getElem? (i := 15) rfl)) rfl rfl rfl rfl (by decide) pd_si1 rfl rfl (Nat.le_of_ble_eq_true rfl) (Nat.le_of_ble_eq_true rfl) (Nat.le_of_ble_eq_true rfl) (Nat.le_of_ble_eq_true rfl) (allS (List.mem_of_getElem? (i := 1) rfl) all0) ?_
          rintro _ hs ⟨rfl, Ks, Ss⟩ -
          have Es : Ext h hs := ext_keep (ext_keep (ext_trans En Em) Kn (all1 En.1)) Ks (all1 (Nat.le_refl _))
          exact Wp.retA ok_mak (t := (.object "java/lang/String")) rfl rfl rfl rfl rfl ⟨_, rfl, Es, Ss⟩
        · replace hk3 : (Int32.ofNat k) = (3 : Int32) := hk3
          obtain rfl : k = 3 := (n_eq (by omega) (by decide)).mp hk3
          refine Wp.new ok_mak (G.1 _ (List.mem_of_getElem? (i := 9) rfl)) (G.1 _ (List.mem_of_getElem? (i := 10) rfl)) (G.1 _ (List.mem_of_getElem? (i := 11) rfl)) rfl (Nat.le_of_ble_eq_true rfl) (Nat.le_of_ble_eq_true rfl) ?_
          intro hn En Xn D_hn
          have F1_hn : Fld Z hn h.size "java/lang/String" "coder" "B" (.int 0) := D_hn (Or.inr (G.1 _ (List.mem_of_getElem? (i := 36) rfl))) (ty := .byte) (by decide)
          have F2_hn : Fld Z hn h.size "java/lang/String" "value" "[B" .null := D_hn (Or.inr (G.1 _ (List.mem_of_getElem? (i := 38) rfl))) (ty := .array .byte) (by decide)
          refine Wp.run ok_mak 2 69 #[.val (.int (Int32.ofNat 3)), .val (.int c0), .val (.int c1), .val (.int c2), .val (.int c3)] [(.int (3 : Int32)), (.ref h.size), (.ref h.size)] rfl ?_
          refine Wp.newP ok_mak (len := 3) (cap := 3) (G.1 _ (List.mem_of_getElem? (i := 12) rfl)) rfl rfl rfl (Nat.le_of_ble_eq_true rfl) (Nat.le_of_ble_eq_true rfl) (Nat.le_of_ble_eq_true rfl) (Nat.le_of_ble_eq_true rfl) ?_
          intro hm Em Am
          refine Wp.run ok_mak 3 74 #[.val (.int (Int32.ofNat 3)), .val (.int c0), .val (.int c1), .val (.int c2), .val (.int c3)] [(.int c0), (.int (0 : Int32)), (.ref hn.size), (.ref hn.size), (.ref h.size), (.ref h.size)] rfl ?_
          refine Wp.aput ok_mak Am (List.mem_of_getElem? (i := 0) rfl) (i := 0) rfl (Nat.le_of_ble_eq_true rfl) rfl (fitc L0) rfl rfl rfl ?_
          intro hq13 wq14 Aq15
          refine Wp.run ok_mak 3 78 #[.val (.int (Int32.ofNat 3)), .val (.int c0), .val (.int c1), .val (.int c2), .val (.int c3)] [(.int c1), (.int (1 : Int32)), (.ref hn.size), (.ref hn.size), (.ref h.size), (.ref h.size)] rfl ?_
          refine Wp.aput ok_mak Aq15 (List.mem_of_getElem? (i := 0) rfl) (i := 1) rfl (Nat.le_of_ble_eq_true rfl) rfl (fitc L1) rfl rfl rfl ?_
          intro hq16 wq17 Aq18
          refine Wp.run ok_mak 3 82 #[.val (.int (Int32.ofNat 3)), .val (.int c0), .val (.int c1), .val (.int c2), .val (.int c3)] [(.int c2), (.int (2 : Int32)), (.ref hn.size), (.ref hn.size), (.ref h.size), (.ref h.size)] rfl ?_
          refine Wp.aput ok_mak Aq18 (List.mem_of_getElem? (i := 0) rfl) (i := 2) rfl (Nat.le_of_ble_eq_true rfl) rfl (fitc L2) rfl rfl rfl ?_
          intro hq19 wq20 Aq21
          have Kn : Keep hm hq19 [hn.size] := ((((Keep.refl hm [hn.size]).trans (wr_keep wq14) (fun x hx => Or.inl hx)).trans (wr_keep wq17) (fun x hx => Or.inl hx)).trans (wr_keep wq20) (fun x hx => Or.inl hx))
          have nn : h.size ∉ [hn.size] := ninS (Nat.ne_of_lt Xn.lt) nin0
          have ln : Lat [c0, c1, c2] := Lat.cons L0 (Lat.cons L1 (Lat.cons L2 (Lat.nil)))
          refine Wp.callI ok_mak (a := h.size) (argsL := [(.ref hn.size)]) (rest := [(.ref h.size)]) (ct_si1 G ln (Nat.le_of_ble_eq_true rfl) hq19 ((Xn.ext Em).keep Kn) ((F1_hn.ext Em).keep Kn nn) ((F2_hn.ext Em).keep Kn nn) Aq21) G.2.1 (G.1 _ (List.mem_of_getElem? (i := 13) rfl)) (G.1 _ (List.mem_of_getElem? (i := 14) rfl)) (G.1 _ (List.mem_of_getElem? (i := 11) rfl)) (G.1 _ (List.mem_of_getElem? (i := 15) rfl)) rfl rfl rfl rfl (by decide) pd_si1 rfl rfl (Nat.le_of_ble_eq_true rfl) (Nat.le_of_ble_eq_true rfl) (Nat.le_of_ble_eq_true rfl) (Nat.le_of_ble_eq_true rfl) (allS (List.mem_of_getElem? (i := 1) rfl) all0) ?_
          rintro _ hs ⟨rfl, Ks, Ss⟩ -
          have Es : Ext h hs := ext_keep (ext_keep (ext_trans En Em) Kn (all1 En.1)) Ks (all1 (Nat.le_refl _))
          exact Wp.retA ok_mak (t := (.object "java/lang/String")) rfl rfl rfl rfl rfl ⟨_, rfl, Es, Ss⟩
      · replace hk2 : (Int32.ofNat k) = (2 : Int32) := hk2
        obtain rfl : k = 2 := (n_eq (by omega) (by decide)).mp hk2
        refine Wp.new ok_mak (G.1 _ (List.mem_of_getElem? (i := 9) rfl)) (G.1 _ (List.mem_of_getElem? (i := 10) rfl)) (G.1 _ (List.mem_of_getElem? (i := 11) rfl)) rfl (Nat.le_of_ble_eq_true rfl) (Nat.le_of_ble_eq_true rfl) ?_
        intro hn En Xn D_hn
        have F1_hn : Fld Z hn h.size "java/lang/String" "coder" "B" (.int 0) := D_hn (Or.inr (G.1 _ (List.mem_of_getElem? (i := 36) rfl))) (ty := .byte) (by decide)
        have F2_hn : Fld Z hn h.size "java/lang/String" "value" "[B" .null := D_hn (Or.inr (G.1 _ (List.mem_of_getElem? (i := 38) rfl))) (ty := .array .byte) (by decide)
        refine Wp.run ok_mak 2 45 #[.val (.int (Int32.ofNat 2)), .val (.int c0), .val (.int c1), .val (.int c2), .val (.int c3)] [(.int (2 : Int32)), (.ref h.size), (.ref h.size)] rfl ?_
        refine Wp.newP ok_mak (len := 2) (cap := 2) (G.1 _ (List.mem_of_getElem? (i := 12) rfl)) rfl rfl rfl (Nat.le_of_ble_eq_true rfl) (Nat.le_of_ble_eq_true rfl) (Nat.le_of_ble_eq_true rfl) (Nat.le_of_ble_eq_true rfl) ?_
        intro hm Em Am
        refine Wp.run ok_mak 3 50 #[.val (.int (Int32.ofNat 2)), .val (.int c0), .val (.int c1), .val (.int c2), .val (.int c3)] [(.int c0), (.int (0 : Int32)), (.ref hn.size), (.ref hn.size), (.ref h.size), (.ref h.size)] rfl ?_
        refine Wp.aput ok_mak Am (List.mem_of_getElem? (i := 0) rfl) (i := 0) rfl (Nat.le_of_ble_eq_true rfl) rfl (fitc L0) rfl rfl rfl ?_
        intro hq22 wq23 Aq24
        refine Wp.run ok_mak 3 54 #[.val (.int (Int32.ofNat 2)), .val (.int c0), .val (.int c1), .val (.int c2), .val (.int c3)] [(.int c1), (.int (1 : Int32)), (.ref hn.size), (.ref hn.size), (.ref h.size), (.ref h.size)] rfl ?_
        refine Wp.aput ok_mak Aq24 (List.mem_of_getElem? (i := 0) rfl) (i := 1) rfl (Nat.le_of_ble_eq_true rfl) rfl (fitc L1) rfl rfl rfl ?_
        intro hq25 wq26 Aq27
        have Kn : Keep hm hq25 [hn.size] := (((Keep.refl hm [hn.size]).trans (wr_keep wq23) (fun x hx => Or.inl hx)).trans (wr_keep wq26) (fun x hx => Or.inl hx))
        have nn : h.size ∉ [hn.size] := ninS (Nat.ne_of_lt Xn.lt) nin0
        have ln : Lat [c0, c1] := Lat.cons L0 (Lat.cons L1 (Lat.nil))
        refine Wp.callI ok_mak (a := h.size) (argsL := [(.ref hn.size)]) (rest := [(.ref h.size)]) (ct_si1 G ln (Nat.le_of_ble_eq_true rfl) hq25 ((Xn.ext Em).keep Kn) ((F1_hn.ext Em).keep Kn nn) ((F2_hn.ext Em).keep Kn nn) Aq27) G.2.1 (G.1 _ (List.mem_of_getElem? (i := 13) rfl)) (G.1 _ (List.mem_of_getElem? (i := 14) rfl)) (G.1 _ (List.mem_of_getElem? (i := 11) rfl)) (G.1 _ (List.mem_of_getElem? (i := 15) rfl)) rfl rfl rfl rfl (by decide) pd_si1 rfl rfl (Nat.le_of_ble_eq_true rfl) (Nat.le_of_ble_eq_true rfl) (Nat.le_of_ble_eq_true rfl) (Nat.le_of_ble_eq_true rfl) (allS (List.mem_of_getElem? (i := 1) rfl) all0) ?_
        rintro _ hs ⟨rfl, Ks, Ss⟩ -
        have Es : Ext h hs := ext_keep (ext_keep (ext_trans En Em) Kn (all1 En.1)) Ks (all1 (Nat.le_refl _))
        exact Wp.retA ok_mak (t := (.object "java/lang/String")) rfl rfl rfl rfl rfl ⟨_, rfl, Es, Ss⟩
    · replace hk1 : (Int32.ofNat k) = (1 : Int32) := hk1
      obtain rfl : k = 1 := (n_eq (by omega) (by decide)).mp hk1
      refine Wp.new ok_mak (G.1 _ (List.mem_of_getElem? (i := 9) rfl)) (G.1 _ (List.mem_of_getElem? (i := 10) rfl)) (G.1 _ (List.mem_of_getElem? (i := 11) rfl)) rfl (Nat.le_of_ble_eq_true rfl) (Nat.le_of_ble_eq_true rfl) ?_
      intro hn En Xn D_hn
      have F1_hn : Fld Z hn h.size "java/lang/String" "coder" "B" (.int 0) := D_hn (Or.inr (G.1 _ (List.mem_of_getElem? (i := 36) rfl))) (ty := .byte) (by decide)
      have F2_hn : Fld Z hn h.size "java/lang/String" "value" "[B" .null := D_hn (Or.inr (G.1 _ (List.mem_of_getElem? (i := 38) rfl))) (ty := .array .byte) (by decide)
      refine Wp.run ok_mak 2 25 #[.val (.int (Int32.ofNat 1)), .val (.int c0), .val (.int c1), .val (.int c2), .val (.int c3)] [(.int (1 : Int32)), (.ref h.size), (.ref h.size)] rfl ?_
      refine Wp.newP ok_mak (len := 1) (cap := 1) (G.1 _ (List.mem_of_getElem? (i := 12) rfl)) rfl rfl rfl (Nat.le_of_ble_eq_true rfl) (Nat.le_of_ble_eq_true rfl) (Nat.le_of_ble_eq_true rfl) (Nat.le_of_ble_eq_true rfl) ?_
      intro hm Em Am
      refine Wp.run ok_mak 3 30 #[.val (.int (Int32.ofNat 1)), .val (.int c0), .val (.int c1), .val (.int c2), .val (.int c3)] [(.int c0), (.int (0 : Int32)), (.ref hn.size), (.ref hn.size), (.ref h.size), (.ref h.size)] rfl ?_
      refine Wp.aput ok_mak Am (List.mem_of_getElem? (i := 0) rfl) (i := 0) rfl (Nat.le_of_ble_eq_true rfl) rfl (fitc L0) rfl rfl rfl ?_
      intro hq28 wq29 Aq30
      have Kn : Keep hm hq28 [hn.size] := ((Keep.refl hm [hn.size]).trans (wr_keep wq29) (fun x hx => Or.inl hx))
      have nn : h.size ∉ [hn.size] := ninS (Nat.ne_of_lt Xn.lt) nin0
      have ln : Lat [c0] := Lat.cons L0 (Lat.nil)
      refine Wp.callI ok_mak (a := h.size) (argsL := [(.ref hn.size)]) (rest := [(.ref h.size)]) (ct_si1 G ln (Nat.le_of_ble_eq_true rfl) hq28 ((Xn.ext Em).keep Kn) ((F1_hn.ext Em).keep Kn nn) ((F2_hn.ext Em).keep Kn nn) Aq30) G.2.1 (G.1 _ (List.mem_of_getElem? (i := 13) rfl)) (G.1 _ (List.mem_of_getElem? (i := 14) rfl)) (G.1 _ (List.mem_of_getElem? (i := 11) rfl)) (G.1 _ (List.mem_of_getElem? (i := 15) rfl)) rfl rfl rfl rfl (by decide) pd_si1 rfl rfl (Nat.le_of_ble_eq_true rfl) (Nat.le_of_ble_eq_true rfl) (Nat.le_of_ble_eq_true rfl) (Nat.le_of_ble_eq_true rfl) (allS (List.mem_of_getElem? (i := 1) rfl) all0) ?_
      rintro _ hs ⟨rfl, Ks, Ss⟩ -
      have Es : Ext h hs := ext_keep (ext_keep (ext_trans En Em) Kn (all1 En.1)) Ks (all1 (Nat.le_refl _))
      exact Wp.retA ok_mak (t := (.object "java/lang/String")) rfl rfl rfl rfl rfl ⟨_, rfl, Es, Ss⟩
  · replace hk0 : (Int32.ofNat k) = (0 : Int32) := hk0
    obtain rfl : k = 0 := (n_eq (by omega) (by decide)).mp hk0
    refine Wp.new ok_mak (G.1 _ (List.mem_of_getElem? (i := 9) rfl)) (G.1 _ (List.mem_of_getElem? (i := 10) rfl)) (G.1 _ (List.mem_of_getElem? (i := 11) rfl)) rfl (Nat.le_of_ble_eq_true rfl) (Nat.le_of_ble_eq_true rfl) ?_
    intro hn En Xn D_hn
    have F1_hn : Fld Z hn h.size "java/lang/String" "coder" "B" (.int 0) := D_hn (Or.inr (G.1 _ (List.mem_of_getElem? (i := 36) rfl))) (ty := .byte) (by decide)
    have F2_hn : Fld Z hn h.size "java/lang/String" "value" "[B" .null := D_hn (Or.inr (G.1 _ (List.mem_of_getElem? (i := 38) rfl))) (ty := .array .byte) (by decide)
    refine Wp.run ok_mak 2 9 #[.val (.int (Int32.ofNat 0)), .val (.int c0), .val (.int c1), .val (.int c2), .val (.int c3)] [(.int (0 : Int32)), (.ref h.size), (.ref h.size)] rfl ?_
    refine Wp.newP ok_mak (len := 0) (cap := 0) (G.1 _ (List.mem_of_getElem? (i := 12) rfl)) rfl rfl rfl (Nat.le_of_ble_eq_true rfl) (Nat.le_of_ble_eq_true rfl) (Nat.le_of_ble_eq_true rfl) (Nat.le_of_ble_eq_true rfl) ?_
    intro hm Em Am
    have Kn : Keep hm hm [hn.size] := (Keep.refl hm [hn.size])
    have nn : h.size ∉ [hn.size] := ninS (Nat.ne_of_lt Xn.lt) nin0
    have ln : Lat [] := Lat.nil
    refine Wp.callI ok_mak (a := h.size) (argsL := [(.ref hn.size)]) (rest := [(.ref h.size)]) (ct_si1 G ln (Nat.le_of_ble_eq_true rfl) hm ((Xn.ext Em).keep Kn) ((F1_hn.ext Em).keep Kn nn) ((F2_hn.ext Em).keep Kn nn) Am) G.2.1 (G.1 _ (List.mem_of_getElem? (i := 13) rfl)) (G.1 _ (List.mem_of_getElem? (i := 14) rfl)) (G.1 _ (List.mem_of_getElem? (i := 11) rfl)) (G.1 _ (List.mem_of_getElem? (i := 15) rfl)) rfl rfl rfl rfl (by decide) pd_si1 rfl rfl (Nat.le_of_ble_eq_true rfl) (Nat.le_of_ble_eq_true rfl) (Nat.le_of_ble_eq_true rfl) (Nat.le_of_ble_eq_true rfl) (allS (List.mem_of_getElem? (i := 1) rfl) all0) ?_
    rintro _ hs ⟨rfl, Ks, Ss⟩ -
    have Es : Ext h hs := ext_keep (ext_keep (ext_trans En Em) Kn (all1 En.1)) Ks (all1 (Nat.le_refl _))
    exact Wp.retA ok_mak (t := (.object "java/lang/String")) rfl rfl rfl rfl rfl ⟨_, rfl, Es, Ss⟩

abbrev mt_bes : Mth := (⟨"holdfast/HashSlot", "beside", "(Ljava/lang/String;Ljava/lang/String;)Ljava/lang/String;"⟩, prog_2_method_5_code, 2, some (.object "java/lang/String"))
def tb_bes : Tab := [(0, .aload_n 0, 1), (1, .invokestatic 27, 3), (4, .ifCond .eq 22, 3), (7, .new 39, 3), (10, .dup, 1), (11, .invokespecial 41, 3), (14, .aload_n 0, 1), (15, .invokevirtual 42, 3), (18, .aload_n 1, 1), (19, .invokevirtual 42, 3), (22, .invokevirtual 50, 3), (25, .areturn, 1), (26, .aload_n 0, 1), (27, .invokestatic 54, 3), (30, .ifCond .ne 35, 3), (33, .new 57, 3), (36, .dup, 1), (37, .new 39, 3), (40, .dup, 1), (41, .invokespecial 41, 3), (44, .ldc 59, 2), (46, .invokevirtual 42, 3), (49, .aload_n 0, 1), (50, .invokevirtual 42, 3), (53, .invokevirtual 50, 3), (56, .ldc 61, 2), (58, .invokestatic 63, 3), (61, .invokespecial 67, 3), (64, .athrow, 1), (65, .new 39, 3), (68, .dup, 1), (69, .invokespecial 41, 3), (72, .ldc 70, 2), (74, .invokevirtual 42, 3), (77, .aload_n 0, 1), (78, .invokevirtual 42, 3), (81, .ldc 72, 2), (83, .invokevirtual 42, 3), (86, .aload_n 1, 1), (87, .invokevirtual 42, 3), (90, .invokevirtual 50, 3), (93, .areturn, 1)]
theorem ok_bes : TabOk mt_bes.2.1 tb_bes := by
  intro x hx
  have q : tb_bes.all (fun x => decide (decode prog_2_method_5_code x.1 = .ok x.2)) = true := by decide +kernel
  exact of_decide_eq_true (List.all_eq_true.mp q x hx)
theorem pl_bes : plainFor mt_bes.1 = true := by first | decide +kernel | exact plainFor_of_name (by first | (simp [plainName, overriddenIn]; done) | decide +kernel)
theorem pd_bes : parseMethodDescriptor "(Ljava/lang/String;Ljava/lang/String;)Ljava/lang/String;" = some ⟨[(.object "java/lang/String"), (.object "java/lang/String")], some (.object "java/lang/String")⟩ := by decide +kernel

set_option maxRecDepth 65536 in
set_option maxHeartbeats 4000000 in
theorem ct_be1 {l : Launch} {Z : State} {a0 : Array Value} (G : Gd Z a0) {a c : Addr} {ks ms : List Int32} (hl : ks.length + ms.length ≤ 8) (hT : (tg ks).isSome = true) (h : Heap) (S1 : Str Z h a ks) (S2 : Str Z h c ms) :
    Ct l Z EL1 mt_bes ({ frames := 7, cells := 6, slots := 60, locals := 106 } : Room) #[(.ref a), (.ref c)] h [] (fun v h' => ∃ d, v = some (.ref d) ∧ Ext h h' ∧ Str Z h' d (ks ++ ms)) := by
  refine Ct.of_wp pl_bes G.2.1 (Ls := #[.val (.ref a), .val (.ref c)]) rfl ?_
  refine Wp.run ok_bes 1 1 #[.val (.ref a), .val (.ref c)] [(.ref a)] rfl ?_
  refine Wp.callS ok_bes (argsL := [(.ref a)]) (rest := []) (ct_tgd G (by omega) h S1) G.2.1 (G.1 _ (List.mem_of_getElem? (i := 46) rfl)) (G.1 _ (List.mem_of_getElem? (i := 47) rfl)) (G.1 _ (List.mem_of_getElem? (i := 44) rfl)) (G.1 _ (List.mem_of_getElem? (i := 48) rfl)) rfl rfl (by decide) pd_tgd rfl rfl (Nat.le_of_ble_eq_true rfl) (Nat.le_of_ble_eq_true rfl) (Nat.le_of_ble_eq_true rfl) (Nat.le_of_ble_eq_true rfl) all0 ?_
  rintro _ h1 ⟨rfl, E1⟩ -
  refine Wp.at #[.val (.ref a), .val (.ref c)] [(.int 1)] ⟨rfl, (by rw [if_pos hT] <;> rfl)⟩ ?_
  refine Wp.ifF ok_bes rfl rfl (show ¬ 1 = (0 : Int32) from by decide) ?_
  refine Wp.new ok_bes (G.1 _ (List.mem_of_getElem? (i := 103) rfl)) (G.1 _ (List.mem_of_getElem? (i := 104) rfl)) (G.1 _ (List.mem_of_getElem? (i := 105) rfl)) rfl (Nat.le_of_ble_eq_true rfl) (Nat.le_of_ble_eq_true rfl) ?_
  intro g1 G1 X1 D1
  refine Wp.run ok_bes 1 11 #[.val (.ref a), .val (.ref c)] [(.ref h1.size), (.ref h1.size)] rfl ?_
  refine Wp.callI3 ok_bes (a := h1.size) (argsL := []) (rest := [(.ref h1.size)]) (ct_sbi G g1 X1 (D1 (Or.inl (G.1 _ (List.mem_of_getElem? (i := 118) rfl))) (ty := (.array .byte)) (by decide)) (D1 (Or.inl (G.1 _ (List.mem_of_getElem? (i := 120) rfl))) (ty := .byte) (by decide)) (D1 (Or.inl (G.1 _ (List.mem_of_getElem? (i := 134) rfl))) (ty := .int) (by decide))) G.2.1 (G.1 _ (List.mem_of_getElem? (i := 106) rfl)) (G.1 _ (List.mem_of_getElem? (i := 107) rfl)) (G.1 _ (List.mem_of_getElem? (i := 105) rfl)) (G.1 _ (List.mem_of_getElem? (i := 108) rfl)) rfl rfl rfl rfl (by decide) pd_sbi rfl rfl (Nat.le_of_ble_eq_true rfl) (Nat.le_of_ble_eq_true rfl) (Nat.le_of_ble_eq_true rfl) (Nat.le_of_ble_eq_true rfl) (allS (List.mem_of_getElem? (i := 0) rfl) all0) ?_
  rintro _ g2 _ ⟨b, rfl, rfl, K2, hb, B2⟩ -
  have hbn : h1.size ≤ b := Nat.le_trans G1.1 hb
  have G2 : Ext h1 g2 := ext_keep G1 K2 (all1 (Nat.le_refl _))
  refine Wp.run ok_bes 1 15 #[.val (.ref a), .val (.ref c)] [(.ref a), (.ref h1.size)] rfl ?_
  refine Wp.callV ok_bes (a := h1.size) (argsL := [(.ref a)]) (rest := []) (ct_sba G (by simp <;> omega) g2 B2 ((S1.ext E1).ext G2)) (B2).exa G.2.1 (G.1 _ (List.mem_of_getElem? (i := 122) rfl)) (G.1 _ (List.mem_of_getElem? (i := 123) rfl)) (G.1 _ (List.mem_of_getElem? (i := 125) rfl)) (G.1 _ (List.mem_of_getElem? (i := 124) rfl)) (G.1 _ (List.mem_of_getElem? (i := 105) rfl)) (G.1 _ (List.mem_of_getElem? (i := 126) rfl)) rfl rfl (by decide) pd_sba rfl rfl (Nat.le_of_ble_eq_true rfl) (Nat.le_of_ble_eq_true rfl) (Nat.le_of_ble_eq_true rfl) (Nat.le_of_ble_eq_true rfl) (allS (List.mem_of_getElem? (i := 0) rfl) (allS (List.mem_of_getElem? (i := 1) rfl) all0)) ?_
  rintro _ g3 ⟨rfl, K3, B3⟩ -
  have G3 : Ext h1 g3 := ext_keep G2 K3 (allS hbn (all1 (Nat.le_refl _)))
  refine Wp.run ok_bes 1 19 #[.val (.ref a), .val (.ref c)] [(.ref c), (.ref h1.size)] rfl ?_
  refine Wp.callV ok_bes (a := h1.size) (argsL := [(.ref c)]) (rest := []) (ct_sba G (by simp <;> omega) g3 B3 ((S2.ext E1).ext G3)) (B3).exa G.2.1 (G.1 _ (List.mem_of_getElem? (i := 122) rfl)) (G.1 _ (List.mem_of_getElem? (i := 123) rfl)) (G.1 _ (List.mem_of_getElem? (i := 125) rfl)) (G.1 _ (List.mem_of_getElem? (i := 124) rfl)) (G.1 _ (List.mem_of_getElem? (i := 105) rfl)) (G.1 _ (List.mem_of_getElem? (i := 126) rfl)) rfl rfl (by decide) pd_sba rfl rfl (Nat.le_of_ble_eq_true rfl) (Nat.le_of_ble_eq_true rfl) (Nat.le_of_ble_eq_true rfl) (Nat.le_of_ble_eq_true rfl) (allS (List.mem_of_getElem? (i := 0) rfl) (allS (List.mem_of_getElem? (i := 1) rfl) all0)) ?_
  rintro _ g4 ⟨rfl, K4, B4⟩ -
  have G4 : Ext h1 g4 := ext_keep G3 K4 (allS hbn (all1 (Nat.le_refl _)))
  refine Wp.callV ok_bes (a := h1.size) (argsL := []) (rest := []) (ct_sbs G (by simp <;> omega) g4 B4) B4.exa G.2.1 (G.1 _ (List.mem_of_getElem? (i := 161) rfl)) (G.1 _ (List.mem_of_getElem? (i := 162) rfl)) (G.1 _ (List.mem_of_getElem? (i := 164) rfl)) (G.1 _ (List.mem_of_getElem? (i := 163) rfl)) (G.1 _ (List.mem_of_getElem? (i := 105) rfl)) (G.1 _ (List.mem_of_getElem? (i := 165) rfl)) rfl rfl (by decide) pd_sbs rfl rfl (Nat.le_of_ble_eq_true rfl) (Nat.le_of_ble_eq_true rfl) (Nat.le_of_ble_eq_true rfl) (Nat.le_of_ble_eq_true rfl) all0 ?_
  rintro _ h9 ⟨d, rfl, E9, S9⟩ -
  exact Wp.retA ok_bes (t := (.object "java/lang/String")) rfl rfl rfl rfl rfl ⟨d, rfl, ext_trans (ext_trans E1 G4) E9, by simpa using S9⟩

set_option maxRecDepth 65536 in
set_option maxHeartbeats 4000000 in
theorem ct_be0 {l : Launch} {Z : State} {a0 : Array Value} (G : Gd Z a0) {a c : Addr} {ks ms : List Int32} (hl : ks.length + ms.length ≤ 8) (hT : ¬ (tg ks).isSome = true) (hne : ks ≠ []) (hno : fx ks 125 0 = none) (h : Heap) (S1 : Str Z h a ks) (S2 : Str Z h c ms) :
    Ct l Z EL1 mt_bes ({ frames := 8, cells := 12, slots := 96, locals := 118 } : Room) #[(.ref a), (.ref c)] h [] (fun v h' => ∃ d, v = some (.ref d) ∧ Ext h h' ∧ Str Z h' d (123 :: ks ++ 125 :: ms)) := by
  refine Ct.of_wp pl_bes G.2.1 (Ls := #[.val (.ref a), .val (.ref c)]) rfl ?_
  refine Wp.run ok_bes 1 1 #[.val (.ref a), .val (.ref c)] [(.ref a)] rfl ?_
  refine Wp.callS ok_bes (argsL := [(.ref a)]) (rest := []) (ct_tgd G (by omega) h S1) G.2.1 (G.1 _ (List.mem_of_getElem? (i := 46) rfl)) (G.1 _ (List.mem_of_getElem? (i := 47) rfl)) (G.1 _ (List.mem_of_getElem? (i := 44) rfl)) (G.1 _ (List.mem_of_getElem? (i := 48) rfl)) rfl rfl (by decide) pd_tgd rfl rfl (Nat.le_of_ble_eq_true rfl) (Nat.le_of_ble_eq_true rfl) (Nat.le_of_ble_eq_true rfl) (Nat.le_of_ble_eq_true rfl) all0 ?_
  rintro _ h1 ⟨rfl, E1⟩ -
  refine Wp.at #[.val (.ref a), .val (.ref c)] [(.int 0)] ⟨rfl, (by rw [if_neg hT] <;> rfl)⟩ ?_
  refine Wp.ifT ok_bes 26 rfl rfl (show 0 = (0 : Int32) from rfl) (by decide) (by decide) ?_
  refine Wp.run ok_bes 1 27 #[.val (.ref a), .val (.ref c)] [(.ref a)] rfl ?_
  refine Wp.callS ok_bes (argsL := [(.ref a)]) (rest := []) (ct_rmb G (by omega) h1 (S1.ext E1)) G.2.1 (G.1 _ (List.mem_of_getElem? (i := 95) rfl)) (G.1 _ (List.mem_of_getElem? (i := 96) rfl)) (G.1 _ (List.mem_of_getElem? (i := 44) rfl)) (G.1 _ (List.mem_of_getElem? (i := 97) rfl)) rfl rfl (by decide) pd_rmb rfl rfl (Nat.le_of_ble_eq_true rfl) (Nat.le_of_ble_eq_true rfl) (Nat.le_of_ble_eq_true rfl) (Nat.le_of_ble_eq_true rfl) all0 ?_
  rintro _ h2 ⟨rfl, E2⟩ -
  refine Wp.at #[.val (.ref a), .val (.ref c)] [(.int 1)] ⟨rfl, (by rw [if_pos (Or.inr ⟨hne, hno⟩)] <;> rfl)⟩ ?_
  refine Wp.ifT ok_bes 65 rfl rfl (show ¬ 1 = (0 : Int32) from by decide) (by decide) (by decide) ?_
  have E3 : Ext h h2 := ext_trans E1 E2
  refine Wp.new ok_bes (G.1 _ (List.mem_of_getElem? (i := 103) rfl)) (G.1 _ (List.mem_of_getElem? (i := 104) rfl)) (G.1 _ (List.mem_of_getElem? (i := 105) rfl)) rfl (Nat.le_of_ble_eq_true rfl) (Nat.le_of_ble_eq_true rfl) ?_
  intro g1 G1 X1 D1
  refine Wp.run ok_bes 1 69 #[.val (.ref a), .val (.ref c)] [(.ref h2.size), (.ref h2.size)] rfl ?_
  refine Wp.callI3 ok_bes (a := h2.size) (argsL := []) (rest := [(.ref h2.size)]) (ct_sbi G g1 X1 (D1 (Or.inl (G.1 _ (List.mem_of_getElem? (i := 118) rfl))) (ty := (.array .byte)) (by decide)) (D1 (Or.inl (G.1 _ (List.mem_of_getElem? (i := 120) rfl))) (ty := .byte) (by decide)) (D1 (Or.inl (G.1 _ (List.mem_of_getElem? (i := 134) rfl))) (ty := .int) (by decide))) G.2.1 (G.1 _ (List.mem_of_getElem? (i := 106) rfl)) (G.1 _ (List.mem_of_getElem? (i := 107) rfl)) (G.1 _ (List.mem_of_getElem? (i := 105) rfl)) (G.1 _ (List.mem_of_getElem? (i := 108) rfl)) rfl rfl rfl rfl (by decide) pd_sbi rfl rfl (Nat.le_of_ble_eq_true rfl) (Nat.le_of_ble_eq_true rfl) (Nat.le_of_ble_eq_true rfl) (Nat.le_of_ble_eq_true rfl) (allS (List.mem_of_getElem? (i := 0) rfl) all0) ?_
  rintro _ g2 _ ⟨b, rfl, rfl, K2, hb, B2⟩ -
  have hbn : h2.size ≤ b := Nat.le_trans G1.1 hb
  have G2 : Ext h2 g2 := ext_keep G1 K2 (all1 (Nat.le_refl _))
  refine Wp.ldcStr ok_bes (nn := 4) [123] (G.1 _ (List.mem_of_getElem? (i := 121) rfl)) (wS G) G.2.1 (by decide) (by decide +kernel) (latD (by decide)) (by decide) rfl (by decide) (by decide) (Nat.le_of_ble_eq_true rfl) (Nat.le_of_ble_eq_true rfl) ?_
  intro lt3 l3 M3 T3 N3
  have O3 : Ext h2 l3 := ext_trans G2 M3
  refine Wp.callV ok_bes (a := h2.size) (argsL := [(.ref lt3)]) (rest := []) (ct_sba G (by simp <;> omega) l3 (B2.ext M3) T3) ((B2.ext M3)).exa G.2.1 (G.1 _ (List.mem_of_getElem? (i := 122) rfl)) (G.1 _ (List.mem_of_getElem? (i := 123) rfl)) (G.1 _ (List.mem_of_getElem? (i := 125) rfl)) (G.1 _ (List.mem_of_getElem? (i := 124) rfl)) (G.1 _ (List.mem_of_getElem? (i := 105) rfl)) (G.1 _ (List.mem_of_getElem? (i := 126) rfl)) rfl rfl (by decide) pd_sba rfl rfl (Nat.le_of_ble_eq_true rfl) (Nat.le_of_ble_eq_true rfl) (Nat.le_of_ble_eq_true rfl) (Nat.le_of_ble_eq_true rfl) (allS (List.mem_of_getElem? (i := 0) rfl) (allS (List.mem_of_getElem? (i := 1) rfl) all0)) ?_
  rintro _ g3 ⟨rfl, K3, B3⟩ -
  have G3 : Ext h2 g3 := ext_keep O3 K3 (allS hbn (all1 (Nat.le_refl _)))
  refine Wp.run ok_bes 1 78 #[.val (.ref a), .val (.ref c)] [(.ref a), (.ref h2.size)] rfl ?_
  refine Wp.callV ok_bes (a := h2.size) (argsL := [(.ref a)]) (rest := []) (ct_sba G (by simp <;> omega) g3 B3 ((S1.ext E3).ext G3)) (B3).exa G.2.1 (G.1 _ (List.mem_of_getElem? (i := 122) rfl)) (G.1 _ (List.mem_of_getElem? (i := 123) rfl)) (G.1 _ (List.mem_of_getElem? (i := 125) rfl)) (G.1 _ (List.mem_of_getElem? (i := 124) rfl)) (G.1 _ (List.mem_of_getElem? (i := 105) rfl)) (G.1 _ (List.mem_of_getElem? (i := 126) rfl)) rfl rfl (by decide) pd_sba rfl rfl (Nat.le_of_ble_eq_true rfl) (Nat.le_of_ble_eq_true rfl) (Nat.le_of_ble_eq_true rfl) (Nat.le_of_ble_eq_true rfl) (allS (List.mem_of_getElem? (i := 0) rfl) (allS (List.mem_of_getElem? (i := 1) rfl) all0)) ?_
  rintro _ g4 ⟨rfl, K4, B4⟩ -
  have G4 : Ext h2 g4 := ext_keep G3 K4 (allS hbn (all1 (Nat.le_refl _)))
  refine Wp.ldcStr ok_bes (nn := 4) [125] (G.1 _ (List.mem_of_getElem? (i := 160) rfl)) (wS G) G.2.1 (by decide) (by decide +kernel) (latD (by decide)) (by decide) rfl (by decide) (by decide) (Nat.le_of_ble_eq_true rfl) (Nat.le_of_ble_eq_true rfl) ?_
  intro lt5 l5 M5 T5 N5
  have O5 : Ext h2 l5 := ext_trans G4 M5
  refine Wp.callV ok_bes (a := h2.size) (argsL := [(.ref lt5)]) (rest := []) (ct_sba G (by simp <;> omega) l5 (B4.ext M5) T5) ((B4.ext M5)).exa G.2.1 (G.1 _ (List.mem_of_getElem? (i := 122) rfl)) (G.1 _ (List.mem_of_getElem? (i := 123) rfl)) (G.1 _ (List.mem_of_getElem? (i := 125) rfl)) (G.1 _ (List.mem_of_getElem? (i := 124) rfl)) (G.1 _ (List.mem_of_getElem? (i := 105) rfl)) (G.1 _ (List.mem_of_getElem? (i := 126) rfl)) rfl rfl (by decide) pd_sba rfl rfl (Nat.le_of_ble_eq_true rfl) (Nat.le_of_ble_eq_true rfl) (Nat.le_of_ble_eq_true rfl) (Nat.le_of_ble_eq_true rfl) (allS (List.mem_of_getElem? (i := 0) rfl) (allS (List.mem_of_getElem? (i := 1) rfl) all0)) ?_
  rintro _ g5 ⟨rfl, K5, B5⟩ -
  have G5 : Ext h2 g5 := ext_keep O5 K5 (allS hbn (all1 (Nat.le_refl _)))
  refine Wp.run ok_bes 1 87 #[.val (.ref a), .val (.ref c)] [(.ref c), (.ref h2.size)] rfl ?_
  refine Wp.callV ok_bes (a := h2.size) (argsL := [(.ref c)]) (rest := []) (ct_sba G (by simp <;> omega) g5 B5 ((S2.ext E3).ext G5)) (B5).exa G.2.1 (G.1 _ (List.mem_of_getElem? (i := 122) rfl)) (G.1 _ (List.mem_of_getElem? (i := 123) rfl)) (G.1 _ (List.mem_of_getElem? (i := 125) rfl)) (G.1 _ (List.mem_of_getElem? (i := 124) rfl)) (G.1 _ (List.mem_of_getElem? (i := 105) rfl)) (G.1 _ (List.mem_of_getElem? (i := 126) rfl)) rfl rfl (by decide) pd_sba rfl rfl (Nat.le_of_ble_eq_true rfl) (Nat.le_of_ble_eq_true rfl) (Nat.le_of_ble_eq_true rfl) (Nat.le_of_ble_eq_true rfl) (allS (List.mem_of_getElem? (i := 0) rfl) (allS (List.mem_of_getElem? (i := 1) rfl) all0)) ?_
  rintro _ g6 ⟨rfl, K6, B6⟩ -
  have G6 : Ext h2 g6 := ext_keep G5 K6 (allS hbn (all1 (Nat.le_refl _)))
  refine Wp.callV ok_bes (a := h2.size) (argsL := []) (rest := []) (ct_sbs G (by simp <;> omega) g6 B6) B6.exa G.2.1 (G.1 _ (List.mem_of_getElem? (i := 161) rfl)) (G.1 _ (List.mem_of_getElem? (i := 162) rfl)) (G.1 _ (List.mem_of_getElem? (i := 164) rfl)) (G.1 _ (List.mem_of_getElem? (i := 163) rfl)) (G.1 _ (List.mem_of_getElem? (i := 105) rfl)) (G.1 _ (List.mem_of_getElem? (i := 165) rfl)) rfl rfl (by decide) pd_sbs rfl rfl (Nat.le_of_ble_eq_true rfl) (Nat.le_of_ble_eq_true rfl) (Nat.le_of_ble_eq_true rfl) (Nat.le_of_ble_eq_true rfl) all0 ?_
  rintro _ h9 ⟨d, rfl, E9, S9⟩ -
  exact Wp.retA ok_bes (t := (.object "java/lang/String")) rfl rfl rfl rfl rfl ⟨d, rfl, ext_trans (ext_trans E3 G6) E9, by simpa using S9⟩
end Jvm.Pilot.@@N@@
namespace Jvm.Pilot.@@N@@
open Jvm Jvm.ClassFile Sem Op Lib Jvm.Free Jvm.Stand Jvm.LawKit Jvm.RoadKit Bundle Jvm.Pilot.@@N@@.Jvm.D Jvm.Pilot.@@N@@.Kw
abbrev mt_exp : Mth := (⟨"holdfast/HashSlotBesidePinLaw", "expected", "(IZI[C[C)C"⟩, method_6_code, 5, some .char)
def tb_exp : Tab := [(0, .iload_n 1, 1), (1, .ifCond .eq 19, 3), (4, .iload_n 0, 1), (5, .iload_n 2, 1), (6, .if_icmp .ge 7, 3), (9, .aload_n 3, 1), (10, .iload_n 0, 1), (11, .caload, 1), (12, .ireturn, 1), (13, .aload 4, 2), (15, .iload_n 0, 1), (16, .iload_n 2, 1), (17, .isub, 1), (18, .caload, 1), (19, .ireturn, 1), (20, .iload_n 0, 1), (21, .ifCond .ne 6, 3), (24, .bipush 123, 2), (26, .ireturn, 1), (27, .iload_n 0, 1), (28, .iload_n 2, 1), (29, .if_icmp .gt 9, 3), (32, .aload_n 3, 1), (33, .iload_n 0, 1), (34, .iconst 1, 1), (35, .isub, 1), (36, .caload, 1), (37, .ireturn, 1), (38, .iload_n 0, 1), (39, .iload_n 2, 1), (40, .iconst 1, 1), (41, .iadd, 1), (42, .if_icmp .ne 6, 3), (45, .bipush 125, 2), (47, .ireturn, 1), (48, .aload 4, 2), (50, .iload_n 0, 1), (51, .iload_n 2, 1), (52, .isub, 1), (53, .iconst 2, 1), (54, .isub, 1), (55, .caload, 1), (56, .ireturn, 1)]
theorem ok_exp : TabOk mt_exp.2.1 tb_exp := by
  intro x hx
  have q : tb_exp.all (fun x => decide (decode method_6_code x.1 = .ok x.2)) = true := by decide +kernel
  exact of_decide_eq_true (List.all_eq_true.mp q x hx)
theorem pl_exp : plainFor mt_exp.1 = true := by first | decide +kernel | exact plainFor_of_name (by first | (simp [plainName, overriddenIn]; done) | decide +kernel)
theorem pd_exp : parseMethodDescriptor "(IZI[C[C)C" = some ⟨[.int, .boolean, .int, (.array .char), (.array .char)], some .char⟩ := by decide +kernel

set_option maxRecDepth 65536 in
set_option maxHeartbeats 4000000 in
theorem ct_ex1 {l : Launch} {Z : State} {a0 : Array Value} (G : Gd Z a0) {k s : Addr} {kv sv : List Int32} {i n : Nat} {c : Int32} (hi : i < 8) (hn : n ≤ kv.length) (h4 : kv.length ≤ 4) (h2 : sv.length ≤ 2) (hc : (kv.take n ++ sv)[i]? = some c) (lc : 0 ≤ c.toInt ∧ c.toInt ≤ 255) (h : Heap) (K : Ar Z h k .char (kv.map .int)) (S : Ar Z h s .char (sv.map .int)) :
    Ct l Z EL1 mt_exp ({ frames := 0, cells := 0, slots := 0, locals := 0 } : Room) #[(.int (Int32.ofNat i)), (.int 1), (.int (Int32.ofNat n)), (.ref k), (.ref s)] h [] (fun v h' => v = some (.int c) ∧ h = h') := by
  refine Ct.of_wp pl_exp G.2.1 (Ls := #[.val (.int (Int32.ofNat i)), .val (.int 1), .val (.int (Int32.ofNat n)), .val (.ref k), .val (.ref s)]) rfl ?_
  have hkl : (kv.take n).length = n := by rw [List.length_take]; omega
  refine Wp.run ok_exp 1 1 #[.val (.int (Int32.ofNat i)), .val (.int 1), .val (.int (Int32.ofNat n)), .val (.ref k), .val (.ref s)] [(.int 1)] rfl ?_
  refine Wp.ifF ok_exp rfl rfl (show ¬ 1 = (0 : Int32) from by decide) ?_
  refine Wp.run ok_exp 2 6 #[.val (.int (Int32.ofNat i)), .val (.int 1), .val (.int (Int32.ofNat n)), .val (.ref k), .val (.ref s)] [(.int (Int32.ofNat n)), (.int (Int32.ofNat i))] rfl ?_
  refine Wp.icmp ok_exp 13 rfl rfl (by decide) (by decide) (fun hd => ?_) (fun hd => ?_)
  · replace hd : ¬ (Int32.ofNat i) < (Int32.ofNat n) := hd
    have g : n ≤ i := Nat.le_of_not_lt fun z => hd ((n_lt (by omega) (by omega)).mpr z)
    have q1 : sv[i - n]? = some c := by rw [List.getElem?_append_right (by omega), hkl] at hc; exact hc
    refine Wp.run ok_exp 4 18 #[.val (.int (Int32.ofNat i)), .val (.int 1), .val (.int (Int32.ofNat n)), .val (.ref k), .val (.ref s)] [(.int ((Int32.ofNat i) - (Int32.ofNat n))), (.ref s)] rfl ?_
    refine Wp.at #[.val (.int (Int32.ofNat i)), .val (.int 1), .val (.int (Int32.ofNat n)), .val (.ref k), .val (.ref s)] [(.int (Int32.ofNat (i - n))), (.ref s)] ⟨rfl, (by rw [show Int32.ofNat i - Int32.ofNat n = Int32.ofNat (i - n) from n_sub g] <;> rfl)⟩ ?_
    refine Wp.aget ok_exp S (i := (i - n)) (v := (.int c)) rfl (by rw [List.getElem?_map, q1]; rfl) rfl rfl rfl ?_
    exact Wp.retI ok_exp (t := .char) rfl (by decide) rfl rfl (fitc lc) ⟨rfl, rfl⟩
  · replace hd : (Int32.ofNat i) < (Int32.ofNat n) := hd
    have g : i < n := (n_lt (by omega) (by omega)).mp hd
    have q1 : kv[i]? = some c := by rw [List.getElem?_append_left (by omega), List.getElem?_take_of_lt g] at hc; exact hc
    refine Wp.run ok_exp 2 11 #[.val (.int (Int32.ofNat i)), .val (.int 1), .val (.int (Int32.ofNat n)), .val (.ref k), .val (.ref s)] [(.int (Int32.ofNat i)), (.ref k)] rfl ?_
    refine Wp.aget ok_exp K (i := i) (v := (.int c)) rfl (by rw [List.getElem?_map, q1]; rfl) rfl rfl rfl ?_
    exact Wp.retI ok_exp (t := .char) rfl (by decide) rfl rfl (fitc lc) ⟨rfl, rfl⟩

set_option maxRecDepth 65536 in
set_option maxHeartbeats 4000000 in
theorem ct_ex0 {l : Launch} {Z : State} {a0 : Array Value} (G : Gd Z a0) {k s : Addr} {kv sv : List Int32} {i n : Nat} {c : Int32} (hi : i < 8) (hn : n ≤ kv.length) (h4 : kv.length ≤ 4) (h2 : sv.length ≤ 2) (hc : (123 :: (kv.take n ++ 125 :: sv))[i]? = some c) (lc : 0 ≤ c.toInt ∧ c.toInt ≤ 255) (h : Heap) (K : Ar Z h k .char (kv.map .int)) (S : Ar Z h s .char (sv.map .int)) :
    Ct l Z EL1 mt_exp ({ frames := 0, cells := 0, slots := 0, locals := 0 } : Room) #[(.int (Int32.ofNat i)), (.int 0), (.int (Int32.ofNat n)), (.ref k), (.ref s)] h [] (fun v h' => v = some (.int c) ∧ h = h') := by
  refine Ct.of_wp pl_exp G.2.1 (Ls := #[.val (.int (Int32.ofNat i)), .val (.int 0), .val (.int (Int32.ofNat n)), .val (.ref k), .val (.ref s)]) rfl ?_
  have hkl : (kv.take n).length = n := by rw [List.length_take]; omega
  refine Wp.run ok_exp 1 1 #[.val (.int (Int32.ofNat i)), .val (.int 0), .val (.int (Int32.ofNat n)), .val (.ref k), .val (.ref s)] [(.int 0)] rfl ?_
  refine Wp.ifT ok_exp 20 rfl rfl (show 0 = (0 : Int32) from rfl) (by decide) (by decide) ?_
  refine Wp.run ok_exp 1 21 #[.val (.int (Int32.ofNat i)), .val (.int 0), .val (.int (Int32.ofNat n)), .val (.ref k), .val (.ref s)] [(.int (Int32.ofNat i))] rfl ?_
  refine Wp.if0 ok_exp 27 rfl rfl (by decide) (by decide) (fun hd => ?_) (fun hd => ?_)
  · replace hd : ¬ (Int32.ofNat i) = (0 : Int32) := hd
    have h0 : i ≠ 0 := fun e => hd (by rw [e]; rfl)
    have q0 : (kv.take n ++ 125 :: sv)[i - 1]? = some c := by rw [List.getElem?_cons, if_neg h0] at hc; exact hc
    refine Wp.run ok_exp 2 29 #[.val (.int (Int32.ofNat i)), .val (.int 0), .val (.int (Int32.ofNat n)), .val (.ref k), .val (.ref s)] [(.int (Int32.ofNat n)), (.int (Int32.ofNat i))] rfl ?_
    refine Wp.icmp ok_exp 38 rfl rfl (by decide) (by decide) (fun he => ?_) (fun he => ?_)
    · replace he : (Int32.ofNat n) < (Int32.ofNat i) := he
      have g : n < i := (n_lt (by omega) (by omega)).mp he
      rw [List.getElem?_append_right (by omega), hkl] at q0
      refine Wp.run ok_exp 4 42 #[.val (.int (Int32.ofNat i)), .val (.int 0), .val (.int (Int32.ofNat n)), .val (.ref k), .val (.ref s)] [(.int ((Int32.ofNat n) + (1 : Int32))), (.int (Int32.ofNat i))] rfl ?_
      refine Wp.at #[.val (.int (Int32.ofNat i)), .val (.int 0), .val (.int (Int32.ofNat n)), .val (.ref k), .val (.ref s)] [(.int (Int32.ofNat (n + 1))), (.int (Int32.ofNat i))] ⟨rfl, (by rw [n_succ] <;> rfl)⟩ ?_
      refine Wp.icmp ok_exp 48 rfl rfl (by decide) (by decide) (fun hf => ?_) (fun hf => ?_)
      · replace hf : ¬ (Int32.ofNat i) = (Int32.ofNat (n + 1)) := hf
        have g2 : n + 2 ≤ i := by
          have : i ≠ n + 1 := fun e => hf (by rw [e])
          omega
        have q1 : sv[i - n - 2]? = some c := by rw [List.getElem?_cons, if_neg (by omega), show i - 1 - n - 1 = i - n - 2 by omega] at q0; exact q0
        refine Wp.run ok_exp 6 55 #[.val (.int (Int32.ofNat i)), .val (.int 0), .val (.int (Int32.ofNat n)), .val (.ref k), .val (.ref s)] [(.int (((Int32.ofNat i) - (Int32.ofNat n)) - (2 : Int32))), (.ref s)] rfl ?_
        refine Wp.at #[.val (.int (Int32.ofNat i)), .val (.int 0), .val (.int (Int32.ofNat n)), .val (.ref k), .val (.ref s)] [(.int (Int32.ofNat (i - n - 2))), (.ref s)] ⟨rfl, (by rw [show Int32.ofNat i - Int32.ofNat n = Int32.ofNat (i - n) from n_sub (by omega), show Int32.ofNat (i - n) - (2 : Int32) = Int32.ofNat (i - n - 2) from n_sub (i := i - n) (j := 2) (by omega)] <;> rfl)⟩ ?_
        refine Wp.aget ok_exp S (i := (i - n - 2)) (v := (.int c)) rfl (by rw [List.getElem?_map, q1]; rfl) rfl rfl rfl ?_
        exact Wp.retI ok_exp (t := .char) rfl (by decide) rfl rfl (fitc lc) ⟨rfl, rfl⟩
      · replace hf : (Int32.ofNat i) = (Int32.ofNat (n + 1)) := hf
        obtain rfl : i = n + 1 := (n_eq (by omega) (by omega)).mp hf
        rw [show n + 1 - 1 - n = 0 by omega] at q0
        refine Wp.run ok_exp 1 47 #[.val (.int (Int32.ofNat (n + 1))), .val (.int 0), .val (.int (Int32.ofNat n)), .val (.ref k), .val (.ref s)] [(.int (125 : Int32))] rfl ?_
        exact Wp.retI ok_exp (t := .char) rfl (by decide) rfl rfl rfl ⟨by rw [← Option.some.inj q0], rfl⟩
    · replace he : ¬ (Int32.ofNat n) < (Int32.ofNat i) := he
      have g : i ≤ n := Nat.le_of_not_lt fun z => he ((n_lt (by omega) (by omega)).mpr z)
      have q1 : kv[i - 1]? = some c := by rw [List.getElem?_append_left (by omega), List.getElem?_take_of_lt (by omega)] at q0; exact q0
      refine Wp.run ok_exp 4 36 #[.val (.int (Int32.ofNat i)), .val (.int 0), .val (.int (Int32.ofNat n)), .val (.ref k), .val (.ref s)] [(.int ((Int32.ofNat i) - (1 : Int32))), (.ref k)] rfl ?_
      refine Wp.at #[.val (.int (Int32.ofNat i)), .val (.int 0), .val (.int (Int32.ofNat n)), .val (.ref k), .val (.ref s)] [(.int (Int32.ofNat (i - 1))), (.ref k)] ⟨rfl, (by rw [show Int32.ofNat i - (1 : Int32) = Int32.ofNat (i - 1) from n_sub (i := i) (j := 1) (by omega)] <;> rfl)⟩ ?_
      refine Wp.aget ok_exp K (i := (i - 1)) (v := (.int c)) rfl (by rw [List.getElem?_map, q1]; rfl) rfl rfl rfl ?_
      exact Wp.retI ok_exp (t := .char) rfl (by decide) rfl rfl (fitc lc) ⟨rfl, rfl⟩
  · replace hd : (Int32.ofNat i) = (0 : Int32) := hd
    obtain rfl : i = 0 := (n_eq (by omega) (by decide)).mp hd
    refine Wp.run ok_exp 1 26 #[.val (.int (Int32.ofNat 0)), .val (.int 0), .val (.int (Int32.ofNat n)), .val (.ref k), .val (.ref s)] [(.int (123 : Int32))] rfl ?_
    exact Wp.retI ok_exp (t := .char) rfl (by decide) rfl rfl rfl ⟨by rw [← Option.some.inj hc], rfl⟩

abbrev mt_att : Mth := (⟨"holdfast/HashSlotBesidePinLaw", "at", "(Ljava/lang/String;IIZI[C[C)Z"⟩, method_5_code, 7, some .boolean)
def tb_att : Tab := [(0, .iload_n 1, 1), (1, .iload_n 2, 1), (2, .if_icmp .ge 22, 3), (5, .aload_n 0, 1), (6, .iload_n 1, 1), (7, .invokevirtual 39, 3), (10, .iload_n 1, 1), (11, .iload_n 3, 1), (12, .iload 4, 2), (14, .aload 5, 2), (16, .aload 6, 2), (18, .invokestatic 43, 3), (21, .if_icmp .ne 7, 3), (24, .iconst 1, 1), (25, .goto 4, 3), (28, .iconst 0, 1), (29, .ireturn, 1)]
theorem ok_att : TabOk mt_att.2.1 tb_att := by
  intro x hx
  have q : tb_att.all (fun x => decide (decode method_5_code x.1 = .ok x.2)) = true := by decide +kernel
  exact of_decide_eq_true (List.all_eq_true.mp q x hx)
theorem pl_att : plainFor mt_att.1 = true := by first | decide +kernel | exact plainFor_of_name (by first | (simp [plainName, overriddenIn]; done) | decide +kernel)
theorem pd_att : parseMethodDescriptor "(Ljava/lang/String;IIZI[C[C)Z" = some ⟨[(.object "java/lang/String"), .int, .int, .boolean, .int, (.array .char), (.array .char)], some .boolean⟩ := by decide +kernel

set_option maxRecDepth 65536 in
set_option maxHeartbeats 4000000 in
theorem ct_at1 {l : Launch} {Z : State} {a0 : Array Value} (G : Gd Z a0) {r k s : Addr} {rs kv sv : List Int32} {i n : Nat} (hi : i < 8) (hn : n ≤ kv.length) (h4 : kv.length ≤ 4) (h2 : sv.length ≤ 2) (hpre : ∀ (i : Nat) (c : Int32), rs[i]? = some c → (kv.take n ++ sv)[i]? = some c) (h : Heap) (S1 : Str Z h r rs) (K : Ar Z h k .char (kv.map .int)) (S : Ar Z h s .char (sv.map .int)) :
    Ct l Z EL1 mt_att ({ frames := 4, cells := 0, slots := 0, locals := 53 } : Room) #[(.ref r), (.int (Int32.ofNat i)), (.int (Int32.ofNat rs.length)), (.int 1), (.int (Int32.ofNat n)), (.ref k), (.ref s)] h [] (fun v h' => v = some (.int 1) ∧ h = h') := by
  refine Ct.of_wp pl_att G.2.1 (Ls := #[.val (.ref r), .val (.int (Int32.ofNat i)), .val (.int (Int32.ofNat rs.length)), .val (.int 1), .val (.int (Int32.ofNat n)), .val (.ref k), .val (.ref s)]) rfl ?_
  refine Wp.run ok_att 2 2 #[.val (.ref r), .val (.int (Int32.ofNat i)), .val (.int (Int32.ofNat rs.length)), .val (.int 1), .val (.int (Int32.ofNat n)), .val (.ref k), .val (.ref s)] [(.int (Int32.ofNat rs.length)), (.int (Int32.ofNat i))] rfl ?_
  refine Wp.icmp ok_att 24 rfl rfl (by decide) (by decide) (fun hd => ?_) (fun hd => ?_)
  · replace hd : ¬ (Int32.ofNat i) < (Int32.ofNat rs.length) := hd
    refine Wp.run ok_att 2 29 #[.val (.ref r), .val (.int (Int32.ofNat i)), .val (.int (Int32.ofNat rs.length)), .val (.int 1), .val (.int (Int32.ofNat n)), .val (.ref k), .val (.ref s)] [(.int (1 : Int32))] rfl ?_
    exact Wp.retI ok_att (t := .boolean) rfl (by decide) rfl rfl rfl ⟨rfl, rfl⟩
  · replace hd : (Int32.ofNat i) < (Int32.ofNat rs.length) := hd
    have g : i < rs.length := (n_lt (by omega) S1.len).mp hd
    obtain ⟨c, hc⟩ : ∃ c, rs[i]? = some c := ⟨_, List.getElem?_eq_getElem g⟩
    have lc := S1.lat.at hc
    refine Wp.run ok_att 2 7 #[.val (.ref r), .val (.int (Int32.ofNat i)), .val (.int (Int32.ofNat rs.length)), .val (.int 1), .val (.int (Int32.ofNat n)), .val (.ref k), .val (.ref s)] [(.int (Int32.ofNat i)), (.ref r)] rfl ?_
    refine Wp.callV ok_att (a := r) (argsL := [(.int (Int32.ofNat i))]) (rest := []) (ct_cha G (i := i) (c := c) hc h S1) S1.exa G.2.1 (G.1 _ (List.mem_of_getElem? (i := 207) rfl)) (G.1 _ (List.mem_of_getElem? (i := 208) rfl)) (G.1 _ (List.mem_of_getElem? (i := 210) rfl)) (G.1 _ (List.mem_of_getElem? (i := 209) rfl)) (G.1 _ (List.mem_of_getElem? (i := 11) rfl)) (G.1 _ (List.mem_of_getElem? (i := 211) rfl)) rfl rfl (by decide) pd_cha rfl rfl (Nat.le_of_ble_eq_true rfl) (Nat.le_of_ble_eq_true rfl) (Nat.le_of_ble_eq_true rfl) (Nat.le_of_ble_eq_true rfl) all0 ?_
    rintro _ _ ⟨rfl, rfl⟩ -
    refine Wp.run ok_att 5 18 #[.val (.ref r), .val (.int (Int32.ofNat i)), .val (.int (Int32.ofNat rs.length)), .val (.int 1), .val (.int (Int32.ofNat n)), .val (.ref k), .val (.ref s)] [(.ref s), (.ref k), (.int (Int32.ofNat n)), (.int 1), (.int (Int32.ofNat i)), (.int c)] rfl ?_
    refine Wp.callS ok_att (argsL := [(.int (Int32.ofNat i)), (.int 1), (.int (Int32.ofNat n)), (.ref k), (.ref s)]) (rest := [(.int c)]) (ct_ex1 G (i := i) (n := n) (c := c) hi hn h4 h2 (hpre i c hc) lc h K S) G.2.1 (G.1 _ (List.mem_of_getElem? (i := 223) rfl)) (G.1 _ (List.mem_of_getElem? (i := 224) rfl)) (G.1 _ (List.mem_of_getElem? (i := 3) rfl)) (G.1 _ (List.mem_of_getElem? (i := 225) rfl)) rfl rfl (by decide) pd_exp rfl rfl (Nat.le_of_ble_eq_true rfl) (Nat.le_of_ble_eq_true rfl) (Nat.le_of_ble_eq_true rfl) (Nat.le_of_ble_eq_true rfl) all0 ?_
    rintro _ _ ⟨rfl, rfl⟩ -
    refine Wp.icmpF ok_att rfl rfl (show c = c from rfl) ?_
    refine Wp.run ok_att 2 29 #[.val (.ref r), .val (.int (Int32.ofNat i)), .val (.int (Int32.ofNat rs.length)), .val (.int 1), .val (.int (Int32.ofNat n)), .val (.ref k), .val (.ref s)] [(.int (1 : Int32))] rfl ?_
    exact Wp.retI ok_att (t := .boolean) rfl (by decide) rfl rfl rfl ⟨rfl, rfl⟩

set_option maxRecDepth 65536 in
set_option maxHeartbeats 4000000 in
theorem ct_at0 {l : Launch} {Z : State} {a0 : Array Value} (G : Gd Z a0) {r k s : Addr} {rs kv sv : List Int32} {i n : Nat} (hi : i < 8) (hn : n ≤ kv.length) (h4 : kv.length ≤ 4) (h2 : sv.length ≤ 2) (hpre : ∀ (i : Nat) (c : Int32), rs[i]? = some c → (123 :: (kv.take n ++ 125 :: sv))[i]? = some c) (h : Heap) (S1 : Str Z h r rs) (K : Ar Z h k .char (kv.map .int)) (S : Ar Z h s .char (sv.map .int)) :
    Ct l Z EL1 mt_att ({ frames := 4, cells := 0, slots := 0, locals := 53 } : Room) #[(.ref r), (.int (Int32.ofNat i)), (.int (Int32.ofNat rs.length)), (.int 0), (.int (Int32.ofNat n)), (.ref k), (.ref s)] h [] (fun v h' => v = some (.int 1) ∧ h = h') := by
  refine Ct.of_wp pl_att G.2.1 (Ls := #[.val (.ref r), .val (.int (Int32.ofNat i)), .val (.int (Int32.ofNat rs.length)), .val (.int 0), .val (.int (Int32.ofNat n)), .val (.ref k), .val (.ref s)]) rfl ?_
  refine Wp.run ok_att 2 2 #[.val (.ref r), .val (.int (Int32.ofNat i)), .val (.int (Int32.ofNat rs.length)), .val (.int 0), .val (.int (Int32.ofNat n)), .val (.ref k), .val (.ref s)] [(.int (Int32.ofNat rs.length)), (.int (Int32.ofNat i))] rfl ?_
  refine Wp.icmp ok_att 24 rfl rfl (by decide) (by decide) (fun hd => ?_) (fun hd => ?_)
  · replace hd : ¬ (Int32.ofNat i) < (Int32.ofNat rs.length) := hd
    refine Wp.run ok_att 2 29 #[.val (.ref r), .val (.int (Int32.ofNat i)), .val (.int (Int32.ofNat rs.length)), .val (.int 0), .val (.int (Int32.ofNat n)), .val (.ref k), .val (.ref s)] [(.int (1 : Int32))] rfl ?_
    exact Wp.retI ok_att (t := .boolean) rfl (by decide) rfl rfl rfl ⟨rfl, rfl⟩
  · replace hd : (Int32.ofNat i) < (Int32.ofNat rs.length) := hd
    have g : i < rs.length := (n_lt (by omega) S1.len).mp hd
    obtain ⟨c, hc⟩ : ∃ c, rs[i]? = some c := ⟨_, List.getElem?_eq_getElem g⟩
    have lc := S1.lat.at hc
    refine Wp.run ok_att 2 7 #[.val (.ref r), .val (.int (Int32.ofNat i)), .val (.int (Int32.ofNat rs.length)), .val (.int 0), .val (.int (Int32.ofNat n)), .val (.ref k), .val (.ref s)] [(.int (Int32.ofNat i)), (.ref r)] rfl ?_
    refine Wp.callV ok_att (a := r) (argsL := [(.int (Int32.ofNat i))]) (rest := []) (ct_cha G (i := i) (c := c) hc h S1) S1.exa G.2.1 (G.1 _ (List.mem_of_getElem? (i := 207) rfl)) (G.1 _ (List.mem_of_getElem? (i := 208) rfl)) (G.1 _ (List.mem_of_getElem? (i := 210) rfl)) (G.1 _ (List.mem_of_getElem? (i := 209) rfl)) (G.1 _ (List.mem_of_getElem? (i := 11) rfl)) (G.1 _ (List.mem_of_getElem? (i := 211) rfl)) rfl rfl (by decide) pd_cha rfl rfl (Nat.le_of_ble_eq_true rfl) (Nat.le_of_ble_eq_true rfl) (Nat.le_of_ble_eq_true rfl) (Nat.le_of_ble_eq_true rfl) all0 ?_
    rintro _ _ ⟨rfl, rfl⟩ -
    refine Wp.run ok_att 5 18 #[.val (.ref r), .val (.int (Int32.ofNat i)), .val (.int (Int32.ofNat rs.length)), .val (.int 0), .val (.int (Int32.ofNat n)), .val (.ref k), .val (.ref s)] [(.ref s), (.ref k), (.int (Int32.ofNat n)), (.int 0), (.int (Int32.ofNat i)), (.int c)] rfl ?_
    refine Wp.callS ok_att (argsL := [(.int (Int32.ofNat i)), (.int 0), (.int (Int32.ofNat n)), (.ref k), (.ref s)]) (rest := [(.int c)]) (ct_ex0 G (i := i) (n := n) (c := c) hi hn h4 h2 (hpre i c hc) lc h K S) G.2.1 (G.1 _ (List.mem_of_getElem? (i := 223) rfl)) (G.1 _ (List.mem_of_getElem? (i := 224) rfl)) (G.1 _ (List.mem_of_getElem? (i := 3) rfl)) (G.1 _ (List.mem_of_getElem? (i := 225) rfl)) rfl rfl (by decide) pd_exp rfl rfl (Nat.le_of_ble_eq_true rfl) (Nat.le_of_ble_eq_true rfl) (Nat.le_of_ble_eq_true rfl) (Nat.le_of_ble_eq_true rfl) all0 ?_
    rintro _ _ ⟨rfl, rfl⟩ -
    refine Wp.icmpF ok_att rfl rfl (show c = c from rfl) ?_
    refine Wp.run ok_att 2 29 #[.val (.ref r), .val (.int (Int32.ofNat i)), .val (.int (Int32.ofNat rs.length)), .val (.int 0), .val (.int (Int32.ofNat n)), .val (.ref k), .val (.ref s)] [(.int (1 : Int32))] rfl ?_
    exact Wp.retI ok_att (t := .boolean) rfl (by decide) rfl rfl rfl ⟨rfl, rfl⟩

def Dr (n i : Nat) (a : Int32) : Prop := (0 ≤ a.toInt ∧ a.toInt ≤ 255) ∧ (n ≤ i → a = 0)
abbrev Tgd (a0 a1 a2 a3 : Int32) : Prop := (a0 = 123 ∧ a1 ≠ 125 ∧ (a2 = 125 ∨ a3 = 125)) ∨ (a0 ≠ 123 ∧ a1 = 123 ∧ a2 ≠ 125 ∧ a3 = 125)
theorem dr_at {xs : List Int32} {n i : Nat} {a c : Int32} (ha : xs[i]? = some a) (hz : n ≤ i → a = 0) (hc : c ≠ 0) : (xs.take n)[i]? = some c ↔ a = c := by
  by_cases q : i < n
  · rw [List.getElem?_take_of_lt q, ha]; exact ⟨fun z => Option.some.inj z, fun z => by rw [z]⟩
  · rw [List.getElem?_eq_none (by rw [List.length_take]; omega)]
    exact ⟨fun z => (nomatch z), fun z => absurd (z ▸ hz (by omega)) hc⟩
theorem dr_tg {n : Nat} {a0 a1 a2 a3 : Int32} (d0 : Dr n 0 a0) (d1 : Dr n 1 a1) (d2 : Dr n 2 a2) (d3 : Dr n 3 a3) : (tg ([a0, a1, a2, a3].take n)).isSome = true ↔ Tgd a0 a1 a2 a3 := by
  have e0 : ∀ c : Int32, c ≠ 0 → (([a0, a1, a2, a3].take n)[0]? = some c ↔ a0 = c) := fun c hc => dr_at rfl d0.2 hc
  have e1 : ∀ c : Int32, c ≠ 0 → (([a0, a1, a2, a3].take n)[1]? = some c ↔ a1 = c) := fun c hc => dr_at rfl d1.2 hc
  have e2 : ∀ c : Int32, c ≠ 0 → (([a0, a1, a2, a3].take n)[2]? = some c ↔ a2 = c) := fun c hc => dr_at rfl d2.2 hc
  have e3 : ∀ c : Int32, c ≠ 0 → (([a0, a1, a2, a3].take n)[3]? = some c ↔ a3 = c) := fun c hc => dr_at rfl d3.2 hc
  have n1 : (123 : Int32) ≠ 0 := by decide
  have n2 : (125 : Int32) ≠ 0 := by decide
  constructor
  · intro hs
    obtain ⟨⟨o, c⟩, hT⟩ := Option.isSome_iff_exists.mp hs
    obtain ⟨-, -, hoc, hcl, hol, h1, h2, h3, h4⟩ := tg_inv hT
    have hl : c < 4 := Nat.lt_of_lt_of_le hcl (by rw [List.length_take]; exact Nat.min_le_right _ _)
    obtain ⟨rfl, rfl⟩ | ⟨rfl, rfl⟩ | ⟨rfl, rfl⟩ : (o = 0 ∧ c = 2) ∨ (o = 0 ∧ c = 3) ∨ (o = 1 ∧ c = 3) := by omega
    · exact Or.inl ⟨(e0 _ n1).mp h1, fun z => h4 1 (by decide) (by decide) ((e1 _ n2).mpr z), Or.inl ((e2 _ n2).mp h2)⟩
    · exact Or.inl ⟨(e0 _ n1).mp h1, fun z => h4 1 (by decide) (by decide) ((e1 _ n2).mpr z), Or.inr ((e3 _ n2).mp h2)⟩
    · exact Or.inr ⟨fun z => h3 0 (by decide) ((e0 _ n1).mpr z), (e1 _ n1).mp h1, fun z => h4 2 (by decide) (by decide) ((e2 _ n2).mpr z), (e3 _ n2).mp h2⟩
  · rintro (⟨h0, h1, h2⟩ | ⟨h0, h1, h2, h3⟩)
    · obtain ⟨j, hj, h5⟩ : ∃ j, 0 + 1 ≤ j ∧ ([a0, a1, a2, a3].take n)[j]? = some 125 := by
        rcases h2 with h2 | h2
        · exact ⟨2, by decide, (e2 _ n2).mpr h2⟩
        · exact ⟨3, by decide, (e3 _ n2).mpr h2⟩
      obtain ⟨c, hT⟩ := tg_yes ((e0 _ n1).mpr h0) (fun j hj => absurd hj (Nat.not_lt_zero _)) (fun z => h1 ((e1 _ n2).mp z)) hj h5
      rw [hT]; rfl
    · obtain ⟨c, hT⟩ := tg_yes (o := 1) (j := 3) ((e1 _ n1).mpr h1) (fun j hj z => by obtain rfl : j = 0 := by omega
                                                                                      exact h0 ((e0 _ n1).mp z)) (fun z => h2 ((e2 _ n2).mp z)) (by decide) ((e3 _ n2).mpr h3)
      rw [hT]; rfl
theorem dr_fx {n : Nat} {a0 a1 a2 a3 : Int32} (d0 : Dr n 0 a0) (d1 : Dr n 1 a1) (d2 : Dr n 2 a2) (d3 : Dr n 3 a3) (h0 : a0 ≠ 125) (h1 : a1 ≠ 125) (h2 : a2 ≠ 125) (h3 : a3 ≠ 125) : fx ([a0, a1, a2, a3].take n) 125 0 = none := by
  have n2 : (125 : Int32) ≠ 0 := by decide
  refine fx_no fun j => ?_
  by_cases hj4 : j < 4
  · obtain rfl | rfl | rfl | rfl : j = 0 ∨ j = 1 ∨ j = 2 ∨ j = 3 := by omega
    · exact fun z => h0 ((dr_at rfl d0.2 n2).mp z)
    · exact fun z => h1 ((dr_at rfl d1.2 n2).mp z)
    · exact fun z => h2 ((dr_at rfl d2.2 n2).mp z)
    · exact fun z => h3 ((dr_at rfl d3.2 n2).mp z)
  · rw [List.getElem?_eq_none (Nat.le_trans (by rw [List.length_take]; exact Nat.min_le_right _ _) (Nat.le_of_not_lt hj4))]; exact fun z => nomatch z
theorem pre_take {xs ys : List Int32} {m : Nat} {i : Nat} {c : Int32} (h : (xs ++ ys.take m)[i]? = some c) : (xs ++ ys)[i]? = some c := by
  by_cases q : i < xs.length
  · rw [List.getElem?_append_left q] at h ⊢; exact h
  · rw [List.getElem?_append_right (by omega)] at h ⊢
    rw [List.getElem?_take] at h
    split at h
    · exact h
    · exact nomatch h
end Jvm.Pilot.@@N@@
namespace Jvm.Pilot.@@N@@
open Jvm Jvm.ClassFile Sem Op Lib Jvm.Free Jvm.Stand Jvm.LawKit Jvm.RoadKit Bundle Jvm.Pilot.@@N@@.Jvm.D Jvm.Pilot.@@N@@.Kw
abbrev mt_law : Mth := (x, code, maxLocals, ret)
def tb_law : Tab := [(0, .iload_n 2, 1), (1, .ldc 7, 2), (3, .iand, 1), (4, .iconst 5, 1), (5, .irem, 1), (6, .istore 5, 2), (8, .iload 4, 2), (10, .ldc 7, 2), (12, .iand, 1), (13, .iconst 3, 1), (14, .irem, 1), (15, .istore 6, 2), (17, .iload 5, 2), (19, .ifCond .le 11, 3), (22, .lload_n 0, 1), (23, .iconst 0, 1), (24, .invokestatic 8, 3), (27, .goto 4, 3), (30, .iconst 0, 1), (31, .istore 7, 2), (33, .iload 5, 2), (35, .iconst 1, 1), (36, .if_icmp .le 11, 3), (39, .lload_n 0, 1), (40, .iconst 1, 1), (41, .invokestatic 8, 3), (44, .goto 4, 3), (47, .iconst 0, 1), (48, .istore 8, 2), (50, .iload 5, 2), (52, .iconst 2, 1), (53, .if_icmp .le 11, 3), (56, .lload_n 0, 1), (57, .iconst 2, 1), (58, .invokestatic 8, 3), (61, .goto 4, 3), (64, .iconst 0, 1), (65, .istore 9, 2), (67, .iload 5, 2), (69, .iconst 3, 1), (70, .if_icmp .le 11, 3), (73, .lload_n 0, 1), (74, .iconst 3, 1), (75, .invokestatic 8, 3), (78, .goto 4, 3), (81, .iconst 0, 1), (82, .istore 10, 2), (84, .iload 6, 2), (86, .ifCond .le 12, 3), (89, .iload_n 3, 1), (90, .sipush 255, 3), (93, .iand, 1), (94, .i2c, 1), (95, .goto 4, 3), (98, .iconst 0, 1), (99, .istore 11, 2), (101, .iload 6, 2), (103, .iconst 1, 1), (104, .if_icmp .le 15, 3), (107, .iload_n 3, 1), (108, .bipush 8, 2), (110, .iushr, 1), (111, .sipush 255, 3), (114, .iand, 1), (115, .i2c, 1), (116, .goto 4, 3), (119, .iconst 0, 1), (120, .istore 12, 2), (122, .iload 7, 2), (124, .bipush 123, 2), (126, .if_icmp .ne 24, 3), (129, .iload 8, 2), (131, .bipush 125, 2), (133, .if_icmp .eq 17, 3), (136, .iload 9, 2), (138, .bipush 125, 2), (140, .if_icmp .eq 38, 3), (143, .iload 10, 2), (145, .bipush 125, 2), (147, .if_icmp .eq 31, 3), (150, .iload 7, 2), (152, .bipush 123, 2), (154, .if_icmp .eq 28, 3), (157, .iload 8, 2), (159, .bipush 123, 2), (161, .if_icmp .ne 21, 3), (164, .iload 9, 2), (166, .bipush 125, 2), (168, .if_icmp .eq 14, 3), (171, .iload 10, 2), (173, .bipush 125, 2), (175, .if_icmp .ne 7, 3), (178, .iconst 1, 1), (179, .goto 4, 3), (182, .iconst 0, 1), (183, .istore 13, 2), (185, .iload 13, 2), (187, .ifCond .ne 36, 3), (190, .iload 5, 2), (192, .ifCond .le 35, 3), (195, .iload 7, 2), (197, .bipush 125, 2), (199, .if_icmp .eq 28, 3), (202, .iload 8, 2), (204, .bipush 125, 2), (206, .if_icmp .eq 21, 3), (209, .iload 9, 2), (211, .bipush 125, 2), (213, .if_icmp .eq 14, 3), (216, .iload 10, 2), (218, .bipush 125, 2), (220, .if_icmp .eq 7, 3), (223, .iconst 1, 1), (224, .goto 4, 3), (227, .iconst 0, 1), (228, .istore 14, 2), (230, .iload 14, 2), (232, .ifCond .ne 5, 3), (235, .iconst 1, 1), (236, .ireturn, 1), (237, .iload 5, 2), (239, .iload 7, 2), (241, .iload 8, 2), (243, .iload 9, 2), (245, .iload 10, 2), (247, .invokestatic 14, 3), (250, .astore 15, 2), (252, .iload 6, 2), (254, .iload 11, 2), (256, .iload 12, 2), (258, .iconst 0, 1), (259, .iconst 0, 1), (260, .invokestatic 14, 3), (263, .astore 16, 2), (265, .iconst 4, 1), (266, .newarray .char, 2), (268, .dup, 1), (269, .iconst 0, 1), (270, .iload 7, 2), (272, .castore, 1), (273, .dup, 1), (274, .iconst 1, 1), (275, .iload 8, 2), (277, .castore, 1), (278, .dup, 1), (279, .iconst 2, 1), (280, .iload 9, 2), (282, .castore, 1), (283, .dup, 1), (284, .iconst 3, 1), (285, .iload 10, 2), (287, .castore, 1), (288, .astore 17, 2), (290, .iconst 2, 1), (291, .newarray .char, 2), (293, .dup, 1), (294, .iconst 0, 1), (295, .iload 11, 2), (297, .castore, 1), (298, .dup, 1), (299, .iconst 1, 1), (300, .iload 12, 2), (302, .castore, 1), (303, .astore 18, 2), (305, .iload 13, 2), (307, .ifCond .eq 11, 3), (310, .iload 5, 2), (312, .iload 6, 2), (314, .iadd, 1), (315, .goto 10, 3), (318, .iload 5, 2), (320, .iload 6, 2), (322, .iadd, 1), (323, .iconst 2, 1), (324, .iadd, 1), (325, .istore 19, 2), (327, .aload 15, 2), (329, .aload 16, 2), (331, .invokestatic 18, 3), (334, .astore 20, 2), (336, .aload 20, 2), (338, .ifnull 171, 3), (341, .aload 20, 2), (343, .invokevirtual 24, 3), (346, .iload 19, 2), (348, .if_icmp .ne 161, 3), (351, .aload 20, 2), (353, .iconst 0, 1), (354, .iload 19, 2), (356, .iload 13, 2), (358, .iload 5, 2), (360, .aload 17, 2), (362, .aload 18, 2), (364, .invokestatic 30, 3), (367, .ifCond .eq 142, 3), (370, .aload 20, 2), (372, .iconst 1, 1), (373, .iload 19, 2), (375, .iload 13, 2), (377, .iload 5, 2), (379, .aload 17, 2), (381, .aload 18, 2), (383, .invokestatic 30, 3), (386, .ifCond .eq 123, 3), (389, .aload 20, 2), (391, .iconst 2, 1), (392, .iload 19, 2), (394, .iload 13, 2), (396, .iload 5, 2), (398, .aload 17, 2), (400, .aload 18, 2), (402, .invokestatic 30, 3), (405, .ifCond .eq 104, 3), (408, .aload 20, 2), (410, .iconst 3, 1), (411, .iload 19, 2), (413, .iload 13, 2), (415, .iload 5, 2), (417, .aload 17, 2), (419, .aload 18, 2), (421, .invokestatic 30, 3), (424, .ifCond .eq 85, 3), (427, .aload 20, 2), (429, .iconst 4, 1), (430, .iload 19, 2), (432, .iload 13, 2), (434, .iload 5, 2), (436, .aload 17, 2), (438, .aload 18, 2), (440, .invokestatic 30, 3), (443, .ifCond .eq 66, 3), (446, .aload 20, 2), (448, .iconst 5, 1), (449, .iload 19, 2), (451, .iload 13, 2), (453, .iload 5, 2), (455, .aload 17, 2), (457, .aload 18, 2), (459, .invokestatic 30, 3), (462, .ifCond .eq 47, 3), (465, .aload 20, 2), (467, .bipush 6, 2), (469, .iload 19, 2), (471, .iload 13, 2), (473, .iload 5, 2), (475, .aload 17, 2), (477, .aload 18, 2), (479, .invokestatic 30, 3), (482, .ifCond .eq 27, 3), (485, .aload 20, 2), (487, .bipush 7, 2), (489, .iload 19, 2), (491, .iload 13, 2), (493, .iload 5, 2), (495, .aload 17, 2), (497, .aload 18, 2), (499, .invokestatic 30, 3), (502, .ifCond .eq 7, 3), (505, .iconst 1, 1), (506, .goto 4, 3), (509, .iconst 0, 1), (510, .ireturn, 1)]
theorem ok_law : TabOk mt_law.2.1 tb_law := by
  intro x hx
  have q : tb_law.all (fun x => decide (decode code x.1 = .ok x.2)) = true := by decide +kernel
  exact of_decide_eq_true (List.all_eq_true.mp q x hx)
theorem pl_law : plainFor mt_law.1 = true := by first | decide +kernel | exact plainFor_of_name (by first | (simp [plainName, overriddenIn]; done) | decide +kernel)
theorem pd_law : parseMethodDescriptor "(JIII)Z" = some ⟨[.long, .int, .int, .int], some .boolean⟩ := by decide +kernel

set_option maxRecDepth 65536 in
set_option maxHeartbeats 8000000 in
theorem ct_law {l : Launch} {Z : State} {a0 : Array Value} (G : Gd Z a0) (i0 : Int64) (i1 : Int32) (i2 : Int32) (i3 : Int32) (h : Heap) :
    CtW tables_1 l Z EL1 mt_law room_1 #[(.long i0), (.int i1), (.int i2), (.int i3)] h [] (fun v _ => v = some (.int 1)) := by
  refine Ct.of_wp pl_law G.2.1 (Ls := #[.val (.long i0), .second, .val (.int i1), .val (.int i2), .val (.int i3), .unset, .unset, .unset, .unset, .unset, .unset, .unset, .unset, .unset, .unset, .unset, .unset, .unset, .unset, .unset, .unset]) rfl ?_
  obtain ⟨n, hn5, en⟩ := mod_n i1 (d := 5) (by decide) (by decide)
  obtain ⟨m, hm3, em⟩ := mod_n i3 (d := 3) (by decide) (by decide)
  refine Wp.run ok_law 1 1 #[.val (.long i0), .second, .val (.int i1), .val (.int i2), .val (.int i3), .unset, .unset, .unset, .unset, .unset, .unset, .unset, .unset, .unset, .unset, .unset, .unset, .unset, .unset, .unset, .unset] [(.int i1)] rfl ?_
  refine Wp.ldcI ok_law (G.1 _ (List.mem_of_getElem? (i := 0) rfl)) rfl ?_
  refine Wp.run ok_law 2 5 #[.val (.long i0), .second, .val (.int i1), .val (.int i2), .val (.int i3), .unset, .unset, .unset, .unset, .unset, .unset, .unset, .unset, .unset, .unset, .unset, .unset, .unset, .unset, .unset, .unset] [(.int (5 : Int32)), (.int (i1 &&& (2147483647 : Int32)))] rfl ?_
  refine Wp.irem ok_law rfl rfl (by decide) ?_
  refine Wp.at #[.val (.long i0), .second, .val (.int i1), .val (.int i2), .val (.int i3), .unset, .unset, .unset, .unset, .unset, .unset, .unset, .unset, .unset, .unset, .unset, .unset, .unset, .unset, .unset, .unset] [(.int (Int32.ofNat n))] ⟨rfl, (by rw [show (i1 &&& (2147483647 : Int32)) % (5 : Int32) = Int32.ofNat n from en] <;> rfl)⟩ ?_
  refine Wp.run ok_law 2 10 #[.val (.long i0), .second, .val (.int i1), .val (.int i2), .val (.int i3), .val (.int (Int32.ofNat n)), .unset, .unset, .unset, .unset, .unset, .unset, .unset, .unset, .unset, .unset, .unset, .unset, .unset, .unset, .unset] [(.int i3)] rfl ?_
  refine Wp.ldcI ok_law (G.1 _ (List.mem_of_getElem? (i := 0) rfl)) rfl ?_
  refine Wp.run ok_law 2 14 #[.val (.long i0), .second, .val (.int i1), .val (.int i2), .val (.int i3), .val (.int (Int32.ofNat n)), .unset, .unset, .unset, .unset, .unset, .unset, .unset, .unset, .unset, .unset, .unset, .unset, .unset, .unset, .unset] [(.int (3 : Int32)), (.int (i3 &&& (2147483647 : Int32)))] rfl ?_
  refine Wp.irem ok_law rfl rfl (by decide) ?_
  refine Wp.at #[.val (.long i0), .second, .val (.int i1), .val (.int i2), .val (.int i3), .val (.int (Int32.ofNat n)), .unset, .unset, .unset, .unset, .unset, .unset, .unset, .unset, .unset, .unset, .unset, .unset, .unset, .unset, .unset] [(.int (Int32.ofNat m))] ⟨rfl, (by rw [show (i3 &&& (2147483647 : Int32)) % (3 : Int32) = Int32.ofNat m from em] <;> rfl)⟩ ?_
  refine Wp.run ok_law 2 19 #[.val (.long i0), .second, .val (.int i1), .val (.int i2), .val (.int i3), .val (.int (Int32.ofNat n)), .val (.int (Int32.ofNat m)), .unset, .unset, .unset, .unset, .unset, .unset, .unset, .unset, .unset, .unset, .unset, .unset, .unset, .unset] [(.int (Int32.ofNat n))] rfl ?_
  have r122 : ∀ a0 a1 a2 a3 s0 s1 : Int32, Dr n 0 a0 → Dr n 1 a1 → Dr n 2 a2 → Dr n 3 a3 → Dr m 0 s0 → Dr m 1 s1 → Wp l Z EL1 mt_law room_1 h [] 0 0 122 #[.val (.long i0), .second, .val (.int i1), .val (.int i2), .val (.int i3), .val (.int (Int32.ofNat n)), .val (.int (Int32.ofNat m)), .val (.int a0), .val (.int a1), .val (.int a2), .val (.int a3), .val (.int s0), .val (.int s1), .unset, .unset, .unset, .unset, .unset, .unset, .unset, .unset] [] (fun v _ => v = some (.int 1)) := by
    intro a0 a1 a2 a3 s0 s1 da0 da1 da2 da3 ds0 ds1
    have hkl : ([a0, a1, a2, a3].take n).length = n := by rw [List.length_take]; simp; omega
    have hml : ([s0, s1].take m).length = m := by rw [List.length_take]; simp; omega
    have r237 : ∀ t : Int32, (t = 1 ∧ (tg ([a0, a1, a2, a3].take n)).isSome = true) ∨ (t = 0 ∧ ¬ (tg ([a0, a1, a2, a3].take n)).isSome = true ∧ ([a0, a1, a2, a3].take n) ≠ [] ∧ fx ([a0, a1, a2, a3].take n) 125 0 = none) → Wp l Z EL1 mt_law room_1 h [] 0 0 237 #[.val (.long i0), .second, .val (.int i1), .val (.int i2), .val (.int i3), .val (.int (Int32.ofNat n)), .val (.int (Int32.ofNat m)), .val (.int a0), .val (.int a1), .val (.int a2), .val (.int a3), .val (.int s0), .val (.int s1), .val (.int t), .val (.int 1), .unset, .unset, .unset, .unset, .unset, .unset] [] (fun v _ => v = some (.int 1)) := by
      intro t ht
      refine Wp.run ok_law 5 247 #[.val (.long i0), .second, .val (.int i1), .val (.int i2), .val (.int i3), .val (.int (Int32.ofNat n)), .val (.int (Int32.ofNat m)), .val (.int a0), .val (.int a1), .val (.int a2), .val (.int a3), .val (.int s0), .val (.int s1), .val (.int t), .val (.int 1), .unset, .unset, .unset, .unset, .unset, .unset] [(.int a3), (.int a2), (.int a1), (.int a0), (.int (Int32.ofNat n))] rfl ?_
      refine Wp.callS ok_law (argsL := [(.int (Int32.ofNat n)), (.int a0), (.int a1), (.int a2), (.int a3)]) (rest := []) (ct_mak G (k := n) (by omega) da0.1 da1.1 da2.1 da3.1 h) G.2.1 (G.1 _ (List.mem_of_getElem? (i := 6) rfl)) (G.1 _ (List.mem_of_getElem? (i := 7) rfl)) (G.1 _ (List.mem_of_getElem? (i := 3) rfl)) (G.1 _ (List.mem_of_getElem? (i := 8) rfl)) rfl rfl (by decide) pd_mak rfl rfl (Nat.le_of_ble_eq_true rfl) (Nat.le_of_ble_eq_true rfl) (Nat.le_of_ble_eq_true rfl) (Nat.le_of_ble_eq_true rfl) all0 ?_
      rintro _ h1 ⟨ka, rfl, E1, S1⟩ -
      refine Wp.run ok_law 6 260 #[.val (.long i0), .second, .val (.int i1), .val (.int i2), .val (.int i3), .val (.int (Int32.ofNat n)), .val (.int (Int32.ofNat m)), .val (.int a0), .val (.int a1), .val (.int a2), .val (.int a3), .val (.int s0), .val (.int s1), .val (.int t), .val (.int 1), .val (.ref ka), .unset, .unset, .unset, .unset, .unset] [(.int (0 : Int32)), (.int (0 : Int32)), (.int s1), (.int s0), (.int (Int32.ofNat m))] rfl ?_
      refine Wp.callS ok_law (argsL := [(.int (Int32.ofNat m)), (.int s0), (.int s1), (.int (0 : Int32)), (.int (0 : Int32))]) (rest := []) (ct_mak G (k := m) (by omega) (c0 := s0) (c1 := s1) (c2 := 0) (c3 := 0) ds0.1 ds1.1 (by decide) (by decide) h1) G.2.1 (G.1 _ (List.mem_of_getElem? (i := 6) rfl)) (G.1 _ (List.mem_of_getElem? (i := 7) rfl)) (G.1 _ (List.mem_of_getElem? (i := 3) rfl)) (G.1 _ (List.mem_of_getElem? (i := 8) rfl)) rfl rfl (by decide) pd_mak rfl rfl (Nat.le_of_ble_eq_true rfl) (Nat.le_of_ble_eq_true rfl) (Nat.le_of_ble_eq_true rfl) (Nat.le_of_ble_eq_true rfl) all0 ?_
      rintro _ h2 ⟨ma, rfl, E2, S2⟩ -
      refine Wp.run ok_law 2 266 #[.val (.long i0), .second, .val (.int i1), .val (.int i2), .val (.int i3), .val (.int (Int32.ofNat n)), .val (.int (Int32.ofNat m)), .val (.int a0), .val (.int a1), .val (.int a2), .val (.int a3), .val (.int s0), .val (.int s1), .val (.int t), .val (.int 1), .val (.ref ka), .val (.ref ma), .unset, .unset, .unset, .unset] [(.int (4 : Int32))] rfl ?_
      replace S2 : Str Z h2 ma ([s0, s1].take m) := by
        have e : [s0, s1, 0, 0].take m = ([s0, s1].take m) := by
          obtain rfl | rfl | rfl : m = 0 ∨ m = 1 ∨ m = 2 := by omega
          all_goals rfl
        rw [← e]; exact S2
      refine Wp.newP ok_law (len := 4) (cap := 4) (G.1 _ (List.mem_of_getElem? (i := 12) rfl)) rfl rfl rfl (Nat.le_of_ble_eq_true rfl) (Nat.le_of_ble_eq_true rfl) (Nat.le_of_ble_eq_true rfl) (Nat.le_of_ble_eq_true rfl) ?_
      intro hma Ema Ama
      refine Wp.run ok_law 3 272 #[.val (.long i0), .second, .val (.int i1), .val (.int i2), .val (.int i3), .val (.int (Int32.ofNat n)), .val (.int (Int32.ofNat m)), .val (.int a0), .val (.int a1), .val (.int a2), .val (.int a3), .val (.int s0), .val (.int s1), .val (.int t), .val (.int 1), .val (.ref ka), .val (.ref ma), .unset, .unset, .unset, .unset] [(.int a0), (.int (0 : Int32)), (.ref h2.size), (.ref h2.size)] rfl ?_
      refine Wp.aput ok_law Ama (List.mem_of_getElem? (i := 0) rfl) (i := 0) rfl (Nat.le_of_ble_eq_true rfl) rfl (fitc da0.1) rfl rfl rfl ?_
      intro hq1 wq2 Aq3
      refine Wp.run ok_law 3 277 #[.val (.long i0), .second, .val (.int i1), .val (.int i2), .val (.int i3), .val (.int (Int32.ofNat n)), .val (.int (Int32.ofNat m)), .val (.int a0), .val (.int a1), .val (.int a2), .val (.int a3), .val (.int s0), .val (.int s1), .val (.int t), .val (.int 1), .val (.ref ka), .val (.ref ma), .unset, .unset, .unset, .unset] [(.int a1), (.int (1 : Int32)), (.ref h2.size), (.ref h2.size)] rfl ?_
      refine Wp.aput ok_law Aq3 (List.mem_of_getElem? (i := 0) rfl) (i := 1) rfl (Nat.le_of_ble_eq_true rfl) rfl (fitc da1.1) rfl rfl rfl ?_
      intro hq4 wq5 Aq6
      refine Wp.run ok_law 3 282 #[.val (.long i0), .second, .val (.int i1), .val (.int i2), .val (.int i3), .val (.int (Int32.ofNat n)), .val (.int (Int32.ofNat m)), .val (.int a0), .val (.int a1), .val (.int a2), .val (.int a3), .val (.int s0), .val (.int s1), .val (.int t), .val (.int 1), .val (.ref ka), .val (.ref ma), .unset, .unset, .unset, .unset] [(.int a2), (.int (2 : Int32)), (.ref h2.size), (.ref h2.size)] rfl ?_
      refine Wp.aput ok_law Aq6 (List.mem_of_getElem? (i := 0) rfl) (i := 2) rfl (Nat.le_of_ble_eq_true rfl) rfl (fitc da2.1) rfl rfl rfl ?_
      intro hq7 wq8 Aq9
      refine Wp.run ok_law 3 287 #[.val (.long i0), .second, .val (.int i1), .val (.int i2), .val (.int i3), .val (.int (Int32.ofNat n)), .val (.int (Int32.ofNat m)), .val (.int a0), .val (.int a1), .val (.int a2), .val (.int a3), .val (.int s0), .val (.int s1), .val (.int t), .val (.int 1), .val (.ref ka), .val (.ref ma), .unset, .unset, .unset, .unset] [(.int a3), (.int (3 : Int32)), (.ref h2.size), (.ref h2.size)] rfl ?_
      refine Wp.aput ok_law Aq9 (List.mem_of_getElem? (i := 0) rfl) (i := 3) rfl (Nat.le_of_ble_eq_true rfl) rfl (fitc da3.1) rfl rfl rfl ?_
      intro hq10 wq11 Aq12
      refine Wp.run ok_law 2 291 #[.val (.long i0), .second, .val (.int i1), .val (.int i2), .val (.int i3), .val (.int (Int32.ofNat n)), .val (.int (Int32.ofNat m)), .val (.int a0), .val (.int a1), .val (.int a2), .val (.int a3), .val (.int s0), .val (.int s1), .val (.int t), .val (.int 1), .val (.ref ka), .val (.ref ma), .val (.ref h2.size), .unset, .unset, .unset] [(.int (2 : Int32))] rfl ?_
      have Kma : Keep hma hq10 [h2.size] := (((((Keep.refl hma [h2.size]).trans (wr_keep wq2) (fun x hx => Or.inl hx)).trans (wr_keep wq5) (fun x hx => Or.inl hx)).trans (wr_keep wq8) (fun x hx => Or.inl hx)).trans (wr_keep wq11) (fun x hx => Or.inl hx))
      have E3 : Ext h2 hq10 := ext_keep Ema Kma (all1 (Nat.le_refl _))
      have AK : Ar Z hq10 h2.size .char ([a0, a1, a2, a3].map Value.int) := Aq12
      refine Wp.newP ok_law (len := 2) (cap := 2) (G.1 _ (List.mem_of_getElem? (i := 12) rfl)) rfl rfl rfl (Nat.le_of_ble_eq_true rfl) (Nat.le_of_ble_eq_true rfl) (Nat.le_of_ble_eq_true rfl) (Nat.le_of_ble_eq_true rfl) ?_
      intro hmb Emb Amb
      refine Wp.run ok_law 3 297 #[.val (.long i0), .second, .val (.int i1), .val (.int i2), .val (.int i3), .val (.int (Int32.ofNat n)), .val (.int (Int32.ofNat m)), .val (.int a0), .val (.int a1), .val (.int a2), .val (.int a3), .val (.int s0), .val (.int s1), .val (.int t), .val (.int 1), .val (.ref ka), .val (.ref ma), .val (.ref h2.size), .unset, .unset, .unset] [(.int s0), (.int (0 : Int32)), (.ref hq10.size), (.ref hq10.size)] rfl ?_
      refine Wp.aput ok_law Amb (List.mem_of_getElem? (i := 0) rfl) (i := 0) rfl (Nat.le_of_ble_eq_true rfl) rfl (fitc ds0.1) rfl rfl rfl ?_
      intro hq13 wq14 Aq15
      refine Wp.run ok_law 3 302 #[.val (.long i0), .second, .val (.int i1), .val (.int i2), .val (.int i3), .val (.int (Int32.ofNat n)), .val (.int (Int32.ofNat m)), .val (.int a0), .val (.int a1), .val (.int a2), .val (.int a3), .val (.int s0), .val (.int s1), .val (.int t), .val (.int 1), .val (.ref ka), .val (.ref ma), .val (.ref h2.size), .unset, .unset, .unset] [(.int s1), (.int (1 : Int32)), (.ref hq10.size), (.ref hq10.size)] rfl ?_
      refine Wp.aput ok_law Aq15 (List.mem_of_getElem? (i := 0) rfl) (i := 1) rfl (Nat.le_of_ble_eq_true rfl) rfl (fitc ds1.1) rfl rfl rfl ?_
      intro hq16 wq17 Aq18
      refine Wp.run ok_law 2 307 #[.val (.long i0), .second, .val (.int i1), .val (.int i2), .val (.int i3), .val (.int (Int32.ofNat n)), .val (.int (Int32.ofNat m)), .val (.int a0), .val (.int a1), .val (.int a2), .val (.int a3), .val (.int s0), .val (.int s1), .val (.int t), .val (.int 1), .val (.ref ka), .val (.ref ma), .val (.ref h2.size), .val (.ref hq10.size), .unset, .unset] [(.int t)] rfl ?_
      have Kmb : Keep hmb hq16 [hq10.size] := (((Keep.refl hmb [hq10.size]).trans (wr_keep wq14) (fun x hx => Or.inl hx)).trans (wr_keep wq17) (fun x hx => Or.inl hx))
      have E4 : Ext hq10 hq16 := ext_keep Emb Kmb (all1 (Nat.le_refl _))
      have AS : Ar Z hq16 hq10.size .char ([s0, s1].map Value.int) := Aq18
      have E5 : Ext h2 hq16 := ext_trans E3 E4
      rcases ht with ⟨rfl, hT⟩ | ⟨rfl, hT, hne, hno⟩
      · refine Wp.ifF ok_law rfl rfl (show ¬ 1 = (0 : Int32) from by decide) ?_
        refine Wp.run ok_law 4 325 #[.val (.long i0), .second, .val (.int i1), .val (.int i2), .val (.int i3), .val (.int (Int32.ofNat n)), .val (.int (Int32.ofNat m)), .val (.int a0), .val (.int a1), .val (.int a2), .val (.int a3), .val (.int s0), .val (.int s1), .val (.int 1), .val (.int 1), .val (.ref ka), .val (.ref ma), .val (.ref h2.size), .val (.ref hq10.size), .unset, .unset] [(.int ((Int32.ofNat n) + (Int32.ofNat m)))] rfl ?_
        refine Wp.at #[.val (.long i0), .second, .val (.int i1), .val (.int i2), .val (.int i3), .val (.int (Int32.ofNat n)), .val (.int (Int32.ofNat m)), .val (.int a0), .val (.int a1), .val (.int a2), .val (.int a3), .val (.int s0), .val (.int s1), .val (.int 1), .val (.int 1), .val (.ref ka), .val (.ref ma), .val (.ref h2.size), .val (.ref hq10.size), .unset, .unset] [(.int (Int32.ofNat (([a0, a1, a2, a3].take n) ++ ([s0, s1].take m)).length))] ⟨rfl, congrArg (fun z => [Value.int z]) (show Int32.ofNat n + Int32.ofNat m = Int32.ofNat (([a0, a1, a2, a3].take n) ++ ([s0, s1].take m)).length from by rw [n_add]; congr 1; rw [List.length_append, hkl, hml])⟩ ?_
        refine Wp.run ok_law 3 331 #[.val (.long i0), .second, .val (.int i1), .val (.int i2), .val (.int i3), .val (.int (Int32.ofNat n)), .val (.int (Int32.ofNat m)), .val (.int a0), .val (.int a1), .val (.int a2), .val (.int a3), .val (.int s0), .val (.int s1), .val (.int 1), .val (.int 1), .val (.ref ka), .val (.ref ma), .val (.ref h2.size), .val (.ref hq10.size), .val (.int (Int32.ofNat (([a0, a1, a2, a3].take n) ++ ([s0, s1].take m)).length)), .unset] [(.ref ma), (.ref ka)] rfl ?_
        refine Wp.callS ok_law (argsL := [(.ref ka), (.ref ma)]) (rest := []) (ct_be1 G (ks := ([a0, a1, a2, a3].take n)) (ms := ([s0, s1].take m)) (by rw [hkl, hml]; omega) hT hq16 ((S1.ext E2).ext E5) (S2.ext E5)) G.2.1 (G.1 _ (List.mem_of_getElem? (i := 42) rfl)) (G.1 _ (List.mem_of_getElem? (i := 43) rfl)) (G.1 _ (List.mem_of_getElem? (i := 44) rfl)) (G.1 _ (List.mem_of_getElem? (i := 45) rfl)) rfl rfl (by decide) pd_bes rfl rfl (Nat.le_of_ble_eq_true rfl) (Nat.le_of_ble_eq_true rfl) (Nat.le_of_ble_eq_true rfl) (Nat.le_of_ble_eq_true rfl) all0 ?_
        rintro _ h6 ⟨d, rfl, E6, S6⟩ -
        refine Wp.run ok_law 2 338 #[.val (.long i0), .second, .val (.int i1), .val (.int i2), .val (.int i3), .val (.int (Int32.ofNat n)), .val (.int (Int32.ofNat m)), .val (.int a0), .val (.int a1), .val (.int a2), .val (.int a3), .val (.int s0), .val (.int s1), .val (.int 1), .val (.int 1), .val (.ref ka), .val (.ref ma), .val (.ref h2.size), .val (.ref hq10.size), .val (.int (Int32.ofNat (([a0, a1, a2, a3].take n) ++ ([s0, s1].take m)).length)), .val (.ref d)] [(.ref d)] rfl ?_
        refine Wp.nullF ok_law rfl rfl ?_
        refine Wp.run ok_law 1 343 #[.val (.long i0), .second, .val (.int i1), .val (.int i2), .val (.int i3), .val (.int (Int32.ofNat n)), .val (.int (Int32.ofNat m)), .val (.int a0), .val (.int a1), .val (.int a2), .val (.int a3), .val (.int s0), .val (.int s1), .val (.int 1), .val (.int 1), .val (.ref ka), .val (.ref ma), .val (.ref h2.size), .val (.ref hq10.size), .val (.int (Int32.ofNat (([a0, a1, a2, a3].take n) ++ ([s0, s1].take m)).length)), .val (.ref d)] [(.ref d)] rfl ?_
        refine Wp.callV ok_law (a := d) (argsL := []) (rest := []) (ct_len G h6 S6) S6.exa G.2.1 (G.1 _ (List.mem_of_getElem? (i := 203) rfl)) (G.1 _ (List.mem_of_getElem? (i := 68) rfl)) (G.1 _ (List.mem_of_getElem? (i := 70) rfl)) (G.1 _ (List.mem_of_getElem? (i := 69) rfl)) (G.1 _ (List.mem_of_getElem? (i := 11) rfl)) (G.1 _ (List.mem_of_getElem? (i := 71) rfl)) rfl rfl (by decide) pd_len rfl rfl (Nat.le_of_ble_eq_true rfl) (Nat.le_of_ble_eq_true rfl) (Nat.le_of_ble_eq_true rfl) (Nat.le_of_ble_eq_true rfl) all0 ?_
        rintro _ _ ⟨rfl, rfl⟩ -
        refine Wp.run ok_law 1 348 #[.val (.long i0), .second, .val (.int i1), .val (.int i2), .val (.int i3), .val (.int (Int32.ofNat n)), .val (.int (Int32.ofNat m)), .val (.int a0), .val (.int a1), .val (.int a2), .val (.int a3), .val (.int s0), .val (.int s1), .val (.int 1), .val (.int 1), .val (.ref ka), .val (.ref ma), .val (.ref h2.size), .val (.ref hq10.size), .val (.int (Int32.ofNat (([a0, a1, a2, a3].take n) ++ ([s0, s1].take m)).length)), .val (.ref d)] [(.int (Int32.ofNat (([a0, a1, a2, a3].take n) ++ ([s0, s1].take m)).length)), (.int (Int32.ofNat (([a0, a1, a2, a3].take n) ++ ([s0, s1].take m)).length))] rfl ?_
        refine Wp.icmpF ok_law rfl rfl (show (Int32.ofNat (([a0, a1, a2, a3].take n) ++ ([s0, s1].take m)).length) = (Int32.ofNat (([a0, a1, a2, a3].take n) ++ ([s0, s1].take m)).length) from rfl) ?_
        refine Wp.run ok_law 7 364 #[.val (.long i0), .second, .val (.int i1), .val (.int i2), .val (.int i3), .val (.int (Int32.ofNat n)), .val (.int (Int32.ofNat m)), .val (.int a0), .val (.int a1), .val (.int a2), .val (.int a3), .val (.int s0), .val (.int s1), .val (.int 1), .val (.int 1), .val (.ref ka), .val (.ref ma), .val (.ref h2.size), .val (.ref hq10.size), .val (.int (Int32.ofNat (([a0, a1, a2, a3].take n) ++ ([s0, s1].take m)).length)), .val (.ref d)] [(.ref hq10.size), (.ref h2.size), (.int (Int32.ofNat n)), (.int 1), (.int (Int32.ofNat (([a0, a1, a2, a3].take n) ++ ([s0, s1].take m)).length)), (.int (0 : Int32)), (.ref d)] rfl ?_
        have hpre : ∀ (i : Nat) (c : Int32), (([a0, a1, a2, a3].take n) ++ ([s0, s1].take m))[i]? = some c → ([a0, a1, a2, a3].take n ++ [s0, s1])[i]? = some c := fun i c z => pre_take z
        refine Wp.at #[.val (.long i0), .second, .val (.int i1), .val (.int i2), .val (.int i3), .val (.int (Int32.ofNat n)), .val (.int (Int32.ofNat m)), .val (.int a0), .val (.int a1), .val (.int a2), .val (.int a3), .val (.int s0), .val (.int s1), .val (.int 1), .val (.int 1), .val (.ref ka), .val (.ref ma), .val (.ref h2.size), .val (.ref hq10.size), .val (.int (Int32.ofNat (([a0, a1, a2, a3].take n) ++ ([s0, s1].take m)).length)), .val (.ref d)] [(.ref hq10.size), (.ref h2.size), (.int (Int32.ofNat n)), (.int 1), (.int (Int32.ofNat (([a0, a1, a2, a3].take n) ++ ([s0, s1].take m)).length)), (.int (Int32.ofNat 0)), (.ref d)] ⟨rfl, rfl⟩ ?_
        refine Wp.callS ok_law (argsL := [(.ref d), (.int (Int32.ofNat 0)), (.int (Int32.ofNat (([a0, a1, a2, a3].take n) ++ ([s0, s1].take m)).length)), (.int 1), (.int (Int32.ofNat n)), (.ref h2.size), (.ref hq10.size)]) (rest := []) (ct_at1 G (i := 0) (n := n) (kv := [a0, a1, a2, a3]) (sv := [s0, s1]) (by decide) (by simp; omega) (by simp) (by simp) hpre h6 S6 ((AK.ext E4).ext E6) (AS.ext E6)) G.2.1 (G.1 _ (List.mem_of_getElem? (i := 204) rfl)) (G.1 _ (List.mem_of_getElem? (i := 205) rfl)) (G.1 _ (List.mem_of_getElem? (i := 3) rfl)) (G.1 _ (List.mem_of_getElem? (i := 206) rfl)) rfl rfl (by decide) pd_att rfl rfl (Nat.le_of_ble_eq_true rfl) (Nat.le_of_ble_eq_true rfl) (Nat.le_of_ble_eq_true rfl) (Nat.le_of_ble_eq_true rfl) all0 ?_
        rintro _ _ ⟨rfl, rfl⟩ -
        refine Wp.ifF ok_law rfl rfl (show ¬ 1 = (0 : Int32) from by decide) ?_
        refine Wp.run ok_law 7 383 #[.val (.long i0), .second, .val (.int i1), .val (.int i2), .val (.int i3), .val (.int (Int32.ofNat n)), .val (.int (Int32.ofNat m)), .val (.int a0), .val (.int a1), .val (.int a2), .val (.int a3), .val (.int s0), .val (.int s1), .val (.int 1), .val (.int 1), .val (.ref ka), .val (.ref ma), .val (.ref h2.size), .val (.ref hq10.size), .val (.int (Int32.ofNat (([a0, a1, a2, a3].take n) ++ ([s0, s1].take m)).length)), .val (.ref d)] [(.ref hq10.size), (.ref h2.size), (.int (Int32.ofNat n)), (.int 1), (.int (Int32.ofNat (([a0, a1, a2, a3].take n) ++ ([s0, s1].take m)).length)), (.int (1 : Int32)), (.ref d)] rfl ?_
        refine Wp.at #[.val (.long i0), .second, .val (.int i1), .val (.int i2), .val (.int i3), .val (.int (Int32.ofNat n)), .val (.int (Int32.ofNat m)), .val (.int a0), .val (.int a1), .val (.int a2), .val (.int a3), .val (.int s0), .val (.int s1), .val (.int 1), .val (.int 1), .val (.ref ka), .val (.ref ma), .val (.ref h2.size), .val (.ref hq10.size), .val (.int (Int32.ofNat (([a0, a1, a2, a3].take n) ++ ([s0, s1].take m)).length)), .val (.ref d)] [(.ref hq10.size), (.ref h2.size), (.int (Int32.ofNat n)), (.int 1), (.int (Int32.ofNat (([a0, a1, a2, a3].take n) ++ ([s0, s1].take m)).length)), (.int (Int32.ofNat 1)), (.ref d)] ⟨rfl, rfl⟩ ?_
        refine Wp.callS ok_law (argsL := [(.ref d), (.int (Int32.ofNat 1)), (.int (Int32.ofNat (([a0, a1, a2, a3].take n) ++ ([s0, s1].take m)).length)), (.int 1), (.int (Int32.ofNat n)), (.ref h2.size), (.ref hq10.size)]) (rest := []) (ct_at1 G (i := 1) (n := n) (kv := [a0, a1, a2, a3]) (sv := [s0, s1]) (by decide) (by simp; omega) (by simp) (by simp) hpre h6 S6 ((AK.ext E4).ext E6) (AS.ext E6)) G.2.1 (G.1 _ (List.mem_of_getElem? (i := 204) rfl)) (G.1 _ (List.mem_of_getElem? (i := 205) rfl)) (G.1 _ (List.mem_of_getElem? (i := 3) rfl)) (G.1 _ (List.mem_of_getElem? (i := 206) rfl)) rfl rfl (by decide) pd_att rfl rfl (Nat.le_of_ble_eq_true rfl) (Nat.le_of_ble_eq_true rfl) (Nat.le_of_ble_eq_true rfl) (Nat.le_of_ble_eq_true rfl) all0 ?_
        rintro _ _ ⟨rfl, rfl⟩ -
        refine Wp.ifF ok_law rfl rfl (show ¬ 1 = (0 : Int32) from by decide) ?_
        refine Wp.run ok_law 7 402 #[.val (.long i0), .second, .val (.int i1), .val (.int i2), .val (.int i3), .val (.int (Int32.ofNat n)), .val (.int (Int32.ofNat m)), .val (.int a0), .val (.int a1), .val (.int a2), .val (.int a3), .val (.int s0), .val (.int s1), .val (.int 1), .val (.int 1), .val (.ref ka), .val (.ref ma), .val (.ref h2.size), .val (.ref hq10.size), .val (.int (Int32.ofNat (([a0, a1, a2, a3].take n) ++ ([s0, s1].take m)).length)), .val (.ref d)] [(.ref hq10.size), (.ref h2.size), (.int (Int32.ofNat n)), (.int 1), (.int (Int32.ofNat (([a0, a1, a2, a3].take n) ++ ([s0, s1].take m)).length)), (.int (2 : Int32)), (.ref d)] rfl ?_
        refine Wp.at #[.val (.long i0), .second, .val (.int i1), .val (.int i2), .val (.int i3), .val (.int (Int32.ofNat n)), .val (.int (Int32.ofNat m)), .val (.int a0), .val (.int a1), .val (.int a2), .val (.int a3), .val (.int s0), .val (.int s1), .val (.int 1), .val (.int 1), .val (.ref ka), .val (.ref ma), .val (.ref h2.size), .val (.ref hq10.size), .val (.int (Int32.ofNat (([a0, a1, a2, a3].take n) ++ ([s0, s1].take m)).length)), .val (.ref d)] [(.ref hq10.size), (.ref h2.size), (.int (Int32.ofNat n)), (.int 1), (.int (Int32.ofNat (([a0, a1, a2, a3].take n) ++ ([s0, s1].take m)).length)), (.int (Int32.ofNat 2)), (.ref d)] ⟨rfl, rfl⟩ ?_
        refine Wp.callS ok_law (argsL := [(.ref d), (.int (Int32.ofNat 2)), (.int (Int32.ofNat (([a0, a1, a2, a3].take n) ++ ([s0, s1].take m)).length)), (.int 1), (.int (Int32.ofNat n)), (.ref h2.size), (.ref hq10.size)]) (rest := []) (ct_at1 G (i := 2) (n := n) (kv := [a0, a1, a2, a3]) (sv := [s0, s1]) (by decide) (by simp; omega) (by simp) (by simp) hpre h6 S6 ((AK.ext E4).ext E6) (AS.ext E6)) G.2.1 (G.1 _ (List.mem_of_getElem? (i := 204) rfl)) (G.1 _ (List.mem_of_getElem? (i := 205) rfl)) (G.1 _ (List.mem_of_getElem? (i := 3) rfl)) (G.1 _ (List.mem_of_getElem? (i := 206) rfl)) rfl rfl (by decide) pd_att rfl rfl (Nat.le_of_ble_eq_true rfl) (Nat.le_of_ble_eq_true rfl) (Nat.le_of_ble_eq_true rfl) (Nat.le_of_ble_eq_true rfl) all0 ?_
        rintro _ _ ⟨rfl, rfl⟩ -
        refine Wp.ifF ok_law rfl rfl (show ¬ 1 = (0 : Int32) from by decide) ?_
        refine Wp.run ok_law 7 421 #[.val (.long i0), .second, .val (.int i1), .val (.int i2), .val (.int i3), .val (.int (Int32.ofNat n)), .val (.int (Int32.ofNat m)), .val (.int a0), .val (.int a1), .val (.int a2), .val (.int a3), .val (.int s0), .val (.int s1), .val (.int 1), .val (.int 1), .val (.ref ka), .val (.ref ma), .val (.ref h2.size), .val (.ref hq10.size), .val (.int (Int32.ofNat (([a0, a1, a2, a3].take n) ++ ([s0, s1].take m)).length)), .val (.ref d)] [(.ref hq10.size), (.ref h2.size), (.int (Int32.ofNat n)), (.int 1), (.int (Int32.ofNat (([a0, a1, a2, a3].take n) ++ ([s0, s1].take m)).length)), (.int (3 : Int32)), (.ref d)] rfl ?_
        refine Wp.at #[.val (.long i0), .second, .val (.int i1), .val (.int i2), .val (.int i3), .val (.int (Int32.ofNat n)), .val (.int (Int32.ofNat m)), .val (.int a0), .val (.int a1), .val (.int a2), .val (.int a3), .val (.int s0), .val (.int s1), .val (.int 1), .val (.int 1), .val (.ref ka), .val (.ref ma), .val (.ref h2.size), .val (.ref hq10.size), .val (.int (Int32.ofNat (([a0, a1, a2, a3].take n) ++ ([s0, s1].take m)).length)), .val (.ref d)] [(.ref hq10.size), (.ref h2.size), (.int (Int32.ofNat n)), (.int 1), (.int (Int32.ofNat (([a0, a1, a2, a3].take n) ++ ([s0, s1].take m)).length)), (.int (Int32.ofNat 3)), (.ref d)] ⟨rfl, rfl⟩ ?_
        refine Wp.callS ok_law (argsL := [(.ref d), (.int (Int32.ofNat 3)), (.int (Int32.ofNat (([a0, a1, a2, a3].take n) ++ ([s0, s1].take m)).length)), (.int 1), (.int (Int32.ofNat n)), (.ref h2.size), (.ref hq10.size)]) (rest := []) (ct_at1 G (i := 3) (n := n) (kv := [a0, a1, a2, a3]) (sv := [s0, s1]) (by decide) (by simp; omega) (by simp) (by simp) hpre h6 S6 ((AK.ext E4).ext E6) (AS.ext E6)) G.2.1 (G.1 _ (List.mem_of_getElem? (i := 204) rfl)) (G.1 _ (List.mem_of_getElem? (i := 205) rfl)) (G.1 _ (List.mem_of_getElem? (i := 3) rfl)) (G.1 _ (List.mem_of_getElem? (i := 206) rfl)) rfl rfl (by decide) pd_att rfl rfl (Nat.le_of_ble_eq_true rfl) (Nat.le_of_ble_eq_true rfl) (Nat.le_of_ble_eq_true rfl) (Nat.le_of_ble_eq_true rfl) all0 ?_
        rintro _ _ ⟨rfl, rfl⟩ -
        refine Wp.ifF ok_law rfl rfl (show ¬ 1 = (0 : Int32) from by decide) ?_
        refine Wp.run ok_law 7 440 #[.val (.long i0), .second, .val (.int i1), .val (.int i2), .val (.int i3), .val (.int (Int32.ofNat n)), .val (.int (Int32.ofNat m)), .val (.int a0), .val (.int a1), .val (.int a2), .val (.int a3), .val (.int s0), .val (.int s1), .val (.int 1), .val (.int 1), .val (.ref ka), .val (.ref ma), .val (.ref h2.size), .val (.ref hq10.size), .val (.int (Int32.ofNat (([a0, a1, a2, a3].take n) ++ ([s0, s1].take m)).length)), .val (.ref d)] [(.ref hq10.size), (.ref h2.size), (.int (Int32.ofNat n)), (.int 1), (.int (Int32.ofNat (([a0, a1, a2, a3].take n) ++ ([s0, s1].take m)).length)), (.int (4 : Int32)), (.ref d)] rfl ?_
        refine Wp.at #[.val (.long i0), .second, .val (.int i1), .val (.int i2), .val (.int i3), .val (.int (Int32.ofNat n)), .val (.int (Int32.ofNat m)), .val (.int a0), .val (.int a1), .val (.int a2), .val (.int a3), .val (.int s0), .val (.int s1), .val (.int 1), .val (.int 1), .val (.ref ka), .val (.ref ma), .val (.ref h2.size), .val (.ref hq10.size), .val (.int (Int32.ofNat (([a0, a1, a2, a3].take n) ++ ([s0, s1].take m)).length)), .val (.ref d)] [(.ref hq10.size), (.ref h2.size), (.int (Int32.ofNat n)), (.int 1), (.int (Int32.ofNat (([a0, a1, a2, a3].take n) ++ ([s0, s1].take m)).length)), (.int (Int32.ofNat 4)), (.ref d)] ⟨rfl, rfl⟩ ?_
        refine Wp.callS ok_law (argsL := [(.ref d), (.int (Int32.ofNat 4)), (.int (Int32.ofNat (([a0, a1, a2, a3].take n) ++ ([s0, s1].take m)).length)), (.int 1), (.int (Int32.ofNat n)), (.ref h2.size), (.ref hq10.size)]) (rest := []) (ct_at1 G (i := 4) (n := n) (kv := [a0, a1, a2, a3]) (sv := [s0, s1]) (by decide) (by simp; omega) (by simp) (by simp) hpre h6 S6 ((AK.ext E4).ext E6) (AS.ext E6)) G.2.1 (G.1 _ (List.mem_of_getElem? (i := 204) rfl)) (G.1 _ (List.mem_of_getElem? (i := 205) rfl)) (G.1 _ (List.mem_of_getElem? (i := 3) rfl)) (G.1 _ (List.mem_of_getElem? (i := 206) rfl)) rfl rfl (by decide) pd_att rfl rfl (Nat.le_of_ble_eq_true rfl) (Nat.le_of_ble_eq_true rfl) (Nat.le_of_ble_eq_true rfl) (Nat.le_of_ble_eq_true rfl) all0 ?_
        rintro _ _ ⟨rfl, rfl⟩ -
        refine Wp.ifF ok_law rfl rfl (show ¬ 1 = (0 : Int32) from by decide) ?_
        refine Wp.run ok_law 7 459 #[.val (.long i0), .second, .val (.int i1), .val (.int i2), .val (.int i3), .val (.int (Int32.ofNat n)), .val (.int (Int32.ofNat m)), .val (.int a0), .val (.int a1), .val (.int a2), .val (.int a3), .val (.int s0), .val (.int s1), .val (.int 1), .val (.int 1), .val (.ref ka), .val (.ref ma), .val (.ref h2.size), .val (.ref hq10.size), .val (.int (Int32.ofNat (([a0, a1, a2, a3].take n) ++ ([s0, s1].take m)).length)), .val (.ref d)] [(.ref hq10.size), (.ref h2.size), (.int (Int32.ofNat n)), (.int 1), (.int (Int32.ofNat (([a0, a1, a2, a3].take n) ++ ([s0, s1].take m)).length)), (.int (5 : Int32)), (.ref d)] rfl ?_
        refine Wp.at #[.val (.long i0), .second, .val (.int i1), .val (.int i2), .val (.int i3), .val (.int (Int32.ofNat n)), .val (.int (Int32.ofNat m)), .val (.int a0), .val (.int a1), .val (.int a2), .val (.int a3), .val (.int s0), .val (.int s1), .val (.int 1), .val (.int 1), .val (.ref ka), .val (.ref ma), .val (.ref h2.size), .val (.ref hq10.size), .val (.int (Int32.ofNat (([a0, a1, a2, a3].take n) ++ ([s0, s1].take m)).length)), .val (.ref d)] [(.ref hq10.size), (.ref h2.size), (.int (Int32.ofNat n)), (.int 1), (.int (Int32.ofNat (([a0, a1, a2, a3].take n) ++ ([s0, s1].take m)).length)), (.int (Int32.ofNat 5)), (.ref d)] ⟨rfl, rfl⟩ ?_
        refine Wp.callS ok_law (argsL := [(.ref d), (.int (Int32.ofNat 5)), (.int (Int32.ofNat (([a0, a1, a2, a3].take n) ++ ([s0, s1].take m)).length)), (.int 1), (.int (Int32.ofNat n)), (.ref h2.size), (.ref hq10.size)]) (rest := []) (ct_at1 G (i := 5) (n := n) (kv := [a0, a1, a2, a3]) (sv := [s0, s1]) (by decide) (by simp; omega) (by simp) (by simp) hpre h6 S6 ((AK.ext E4).ext E6) (AS.ext E6)) G.2.1 (G.1 _ (List.mem_of_getElem? (i := 204) rfl)) (G.1 _ (List.mem_of_getElem? (i := 205) rfl)) (G.1 _ (List.mem_of_getElem? (i := 3) rfl)) (G.1 _ (List.mem_of_getElem? (i := 206) rfl)) rfl rfl (by decide) pd_att rfl rfl (Nat.le_of_ble_eq_true rfl) (Nat.le_of_ble_eq_true rfl) (Nat.le_of_ble_eq_true rfl) (Nat.le_of_ble_eq_true rfl) all0 ?_
        rintro _ _ ⟨rfl, rfl⟩ -
        refine Wp.ifF ok_law rfl rfl (show ¬ 1 = (0 : Int32) from by decide) ?_
        refine Wp.run ok_law 7 479 #[.val (.long i0), .second, .val (.int i1), .val (.int i2), .val (.int i3), .val (.int (Int32.ofNat n)), .val (.int (Int32.ofNat m)), .val (.int a0), .val (.int a1), .val (.int a2), .val (.int a3), .val (.int s0), .val (.int s1), .val (.int 1), .val (.int 1), .val (.ref ka), .val (.ref ma), .val (.ref h2.size), .val (.ref hq10.size), .val (.int (Int32.ofNat (([a0, a1, a2, a3].take n) ++ ([s0, s1].take m)).length)), .val (.ref d)] [(.ref hq10.size), (.ref h2.size), (.int (Int32.ofNat n)), (.int 1), (.int (Int32.ofNat (([a0, a1, a2, a3].take n) ++ ([s0, s1].take m)).length)), (.int (6 : Int32)), (.ref d)] rfl ?_
        refine Wp.at #[.val (.long i0), .second, .val (.int i1), .val (.int i2), .val (.int i3), .val (.int (Int32.ofNat n)), .val (.int (Int32.ofNat m)), .val (.int a0), .val (.int a1), .val (.int a2), .val (.int a3), .val (.int s0), .val (.int s1), .val (.int 1), .val (.int 1), .val (.ref ka), .val (.ref ma), .val (.ref h2.size), .val (.ref hq10.size), .val (.int (Int32.ofNat (([a0, a1, a2, a3].take n) ++ ([s0, s1].take m)).length)), .val (.ref d)] [(.ref hq10.size), (.ref h2.size), (.int (Int32.ofNat n)), (.int 1), (.int (Int32.ofNat (([a0, a1, a2, a3].take n) ++ ([s0, s1].take m)).length)), (.int (Int32.ofNat 6)), (.ref d)] ⟨rfl, rfl⟩ ?_
        refine Wp.callS ok_law (argsL := [(.ref d), (.int (Int32.ofNat 6)), (.int (Int32.ofNat (([a0, a1, a2, a3].take n) ++ ([s0, s1].take m)).length)), (.int 1), (.int (Int32.ofNat n)), (.ref h2.size), (.ref hq10.size)]) (rest := []) (ct_at1 G (i := 6) (n := n) (kv := [a0, a1, a2, a3]) (sv := [s0, s1]) (by decide) (by simp; omega) (by simp) (by simp) hpre h6 S6 ((AK.ext E4).ext E6) (AS.ext E6)) G.2.1 (G.1 _ (List.mem_of_getElem? (i := 204) rfl)) (G.1 _ (List.mem_of_getElem? (i := 205) rfl)) (G.1 _ (List.mem_of_getElem? (i := 3) rfl)) (G.1 _ (List.mem_of_getElem? (i := 206) rfl)) rfl rfl (by decide) pd_att rfl rfl (Nat.le_of_ble_eq_true rfl) (Nat.le_of_ble_eq_true rfl) (Nat.le_of_ble_eq_true rfl) (Nat.le_of_ble_eq_true rfl) all0 ?_
        rintro _ _ ⟨rfl, rfl⟩ -
        refine Wp.ifF ok_law rfl rfl (show ¬ 1 = (0 : Int32) from by decide) ?_
        refine Wp.run ok_law 7 499 #[.val (.long i0), .second, .val (.int i1), .val (.int i2), .val (.int i3), .val (.int (Int32.ofNat n)), .val (.int (Int32.ofNat m)), .val (.int a0), .val (.int a1), .val (.int a2), .val (.int a3), .val (.int s0), .val (.int s1), .val (.int 1), .val (.int 1), .val (.ref ka), .val (.ref ma), .val (.ref h2.size), .val (.ref hq10.size), .val (.int (Int32.ofNat (([a0, a1, a2, a3].take n) ++ ([s0, s1].take m)).length)), .val (.ref d)] [(.ref hq10.size), (.ref h2.size), (.int (Int32.ofNat n)), (.int 1), (.int (Int32.ofNat (([a0, a1, a2, a3].take n) ++ ([s0, s1].take m)).length)), (.int (7 : Int32)), (.ref d)] rfl ?_
        refine Wp.at #[.val (.long i0), .second, .val (.int i1), .val (.int i2), .val (.int i3), .val (.int (Int32.ofNat n)), .val (.int (Int32.ofNat m)), .val (.int a0), .val (.int a1), .val (.int a2), .val (.int a3), .val (.int s0), .val (.int s1), .val (.int 1), .val (.int 1), .val (.ref ka), .val (.ref ma), .val (.ref h2.size), .val (.ref hq10.size), .val (.int (Int32.ofNat (([a0, a1, a2, a3].take n) ++ ([s0, s1].take m)).length)), .val (.ref d)] [(.ref hq10.size), (.ref h2.size), (.int (Int32.ofNat n)), (.int 1), (.int (Int32.ofNat (([a0, a1, a2, a3].take n) ++ ([s0, s1].take m)).length)), (.int (Int32.ofNat 7)), (.ref d)] ⟨rfl, rfl⟩ ?_
        refine Wp.callS ok_law (argsL := [(.ref d), (.int (Int32.ofNat 7)), (.int (Int32.ofNat (([a0, a1, a2, a3].take n) ++ ([s0, s1].take m)).length)), (.int 1), (.int (Int32.ofNat n)), (.ref h2.size), (.ref hq10.size)]) (rest := []) (ct_at1 G (i := 7) (n := n) (kv := [a0, a1, a2, a3]) (sv := [s0, s1]) (by decide) (by simp; omega) (by simp) (by simp) hpre h6 S6 ((AK.ext E4).ext E6) (AS.ext E6)) G.2.1 (G.1 _ (List.mem_of_getElem? (i := 204) rfl)) (G.1 _ (List.mem_of_getElem? (i := 205) rfl)) (G.1 _ (List.mem_of_getElem? (i := 3) rfl)) (G.1 _ (List.mem_of_getElem? (i := 206) rfl)) rfl rfl (by decide) pd_att rfl rfl (Nat.le_of_ble_eq_true rfl) (Nat.le_of_ble_eq_true rfl) (Nat.le_of_ble_eq_true rfl) (Nat.le_of_ble_eq_true rfl) all0 ?_
        rintro _ _ ⟨rfl, rfl⟩ -
        refine Wp.ifF ok_law rfl rfl (show ¬ 1 = (0 : Int32) from by decide) ?_
        refine Wp.run ok_law 2 510 #[.val (.long i0), .second, .val (.int i1), .val (.int i2), .val (.int i3), .val (.int (Int32.ofNat n)), .val (.int (Int32.ofNat m)), .val (.int a0), .val (.int a1), .val (.int a2), .val (.int a3), .val (.int s0), .val (.int s1), .val (.int 1), .val (.int 1), .val (.ref ka), .val (.ref ma), .val (.ref h2.size), .val (.ref hq10.size), .val (.int (Int32.ofNat (([a0, a1, a2, a3].take n) ++ ([s0, s1].take m)).length)), .val (.ref d)] [(.int (1 : Int32))] rfl ?_
        exact Wp.retI ok_law (t := .boolean) rfl (by decide) rfl rfl rfl rfl
      · refine Wp.ifT ok_law 318 rfl rfl (show 0 = (0 : Int32) from rfl) (by decide) (by decide) ?_
        refine Wp.run ok_law 5 325 #[.val (.long i0), .second, .val (.int i1), .val (.int i2), .val (.int i3), .val (.int (Int32.ofNat n)), .val (.int (Int32.ofNat m)), .val (.int a0), .val (.int a1), .val (.int a2), .val (.int a3), .val (.int s0), .val (.int s1), .val (.int 0), .val (.int 1), .val (.ref ka), .val (.ref ma), .val (.ref h2.size), .val (.ref hq10.size), .unset, .unset] [(.int (((Int32.ofNat n) + (Int32.ofNat m)) + (2 : Int32)))] rfl ?_
        refine Wp.at #[.val (.long i0), .second, .val (.int i1), .val (.int i2), .val (.int i3), .val (.int (Int32.ofNat n)), .val (.int (Int32.ofNat m)), .val (.int a0), .val (.int a1), .val (.int a2), .val (.int a3), .val (.int s0), .val (.int s1), .val (.int 0), .val (.int 1), .val (.ref ka), .val (.ref ma), .val (.ref h2.size), .val (.ref hq10.size), .unset, .unset] [(.int (Int32.ofNat (123 :: ([a0, a1, a2, a3].take n) ++ 125 :: ([s0, s1].take m)).length))] ⟨rfl, congrArg (fun z => [Value.int z]) (show (Int32.ofNat n + Int32.ofNat m) + (2 : Int32) = Int32.ofNat (123 :: ([a0, a1, a2, a3].take n) ++ 125 :: ([s0, s1].take m)).length from by rw [n_add, show (2 : Int32) = Int32.ofNat 2 from rfl, n_add]; congr 1; rw [List.length_append, List.length_cons, List.length_cons, hkl, hml]; omega)⟩ ?_
        refine Wp.run ok_law 3 331 #[.val (.long i0), .second, .val (.int i1), .val (.int i2), .val (.int i3), .val (.int (Int32.ofNat n)), .val (.int (Int32.ofNat m)), .val (.int a0), .val (.int a1), .val (.int a2), .val (.int a3), .val (.int s0), .val (.int s1), .val (.int 0), .val (.int 1), .val (.ref ka), .val (.ref ma), .val (.ref h2.size), .val (.ref hq10.size), .val (.int (Int32.ofNat (123 :: ([a0, a1, a2, a3].take n) ++ 125 :: ([s0, s1].take m)).length)), .unset] [(.ref ma), (.ref ka)] rfl ?_
        refine Wp.callS ok_law (argsL := [(.ref ka), (.ref ma)]) (rest := []) (ct_be0 G (ks := ([a0, a1, a2, a3].take n)) (ms := ([s0, s1].take m)) (by rw [hkl, hml]; omega) hT hne hno hq16 ((S1.ext E2).ext E5) (S2.ext E5)) G.2.1 (G.1 _ (List.mem_of_getElem? (i := 42) rfl)) (G.1 _ (List.mem_of_getElem? (i := 43) rfl)) (G.1 _ (List.mem_of_getElem? (i := 44) rfl)) (G.1 _ (List.mem_of_getElem? (i := 45) rfl)) rfl rfl (by decide) pd_bes rfl rfl (Nat.le_of_ble_eq_true rfl) (Nat.le_of_ble_eq_true rfl) (Nat.le_of_ble_eq_true rfl) (Nat.le_of_ble_eq_true rfl) all0 ?_
        rintro _ h6 ⟨d, rfl, E6, S6⟩ -
        refine Wp.run ok_law 2 338 #[.val (.long i0), .second, .val (.int i1), .val (.int i2), .val (.int i3), .val (.int (Int32.ofNat n)), .val (.int (Int32.ofNat m)), .val (.int a0), .val (.int a1), .val (.int a2), .val (.int a3), .val (.int s0), .val (.int s1), .val (.int 0), .val (.int 1), .val (.ref ka), .val (.ref ma), .val (.ref h2.size), .val (.ref hq10.size), .val (.int (Int32.ofNat (123 :: ([a0, a1, a2, a3].take n) ++ 125 :: ([s0, s1].take m)).length)), .val (.ref d)] [(.ref d)] rfl ?_
        refine Wp.nullF ok_law rfl rfl ?_
        refine Wp.run ok_law 1 343 #[.val (.long i0), .second, .val (.int i1), .val (.int i2), .val (.int i3), .val (.int (Int32.ofNat n)), .val (.int (Int32.ofNat m)), .val (.int a0), .val (.int a1), .val (.int a2), .val (.int a3), .val (.int s0), .val (.int s1), .val (.int 0), .val (.int 1), .val (.ref ka), .val (.ref ma), .val (.ref h2.size), .val (.ref hq10.size), .val (.int (Int32.ofNat (123 :: ([a0, a1, a2, a3].take n) ++ 125 :: ([s0, s1].take m)).length)), .val (.ref d)] [(.ref d)] rfl ?_
        refine Wp.callV ok_law (a := d) (argsL := []) (rest := []) (ct_len G h6 S6) S6.exa G.2.1 (G.1 _ (List.mem_of_getElem? (i := 203) rfl)) (G.1 _ (List.mem_of_getElem? (i := 68) rfl)) (G.1 _ (List.mem_of_getElem? (i := 70) rfl)) (G.1 _ (List.mem_of_getElem? (i := 69) rfl)) (G.1 _ (List.mem_of_getElem? (i := 11) rfl)) (G.1 _ (List.mem_of_getElem? (i := 71) rfl)) rfl rfl (by decide) pd_len rfl rfl (Nat.le_of_ble_eq_true rfl) (Nat.le_of_ble_eq_true rfl) (Nat.le_of_ble_eq_true rfl) (Nat.le_of_ble_eq_true rfl) all0 ?_
        rintro _ _ ⟨rfl, rfl⟩ -
        refine Wp.run ok_law 1 348 #[.val (.long i0), .second, .val (.int i1), .val (.int i2), .val (.int i3), .val (.int (Int32.ofNat n)), .val (.int (Int32.ofNat m)), .val (.int a0), .val (.int a1), .val (.int a2), .val (.int a3), .val (.int s0), .val (.int s1), .val (.int 0), .val (.int 1), .val (.ref ka), .val (.ref ma), .val (.ref h2.size), .val (.ref hq10.size), .val (.int (Int32.ofNat (123 :: ([a0, a1, a2, a3].take n) ++ 125 :: ([s0, s1].take m)).length)), .val (.ref d)] [(.int (Int32.ofNat (123 :: ([a0, a1, a2, a3].take n) ++ 125 :: ([s0, s1].take m)).length)), (.int (Int32.ofNat (123 :: ([a0, a1, a2, a3].take n) ++ 125 :: ([s0, s1].take m)).length))] rfl ?_
        refine Wp.icmpF ok_law rfl rfl (show (Int32.ofNat (123 :: ([a0, a1, a2, a3].take n) ++ 125 :: ([s0, s1].take m)).length) = (Int32.ofNat (123 :: ([a0, a1, a2, a3].take n) ++ 125 :: ([s0, s1].take m)).length) from rfl) ?_
        refine Wp.run ok_law 7 364 #[.val (.long i0), .second, .val (.int i1), .val (.int i2), .val (.int i3), .val (.int (Int32.ofNat n)), .val (.int (Int32.ofNat m)), .val (.int a0), .val (.int a1), .val (.int a2), .val (.int a3), .val (.int s0), .val (.int s1), .val (.int 0), .val (.int 1), .val (.ref ka), .val (.ref ma), .val (.ref h2.size), .val (.ref hq10.size), .val (.int (Int32.ofNat (123 :: ([a0, a1, a2, a3].take n) ++ 125 :: ([s0, s1].take m)).length)), .val (.ref d)] [(.ref hq10.size), (.ref h2.size), (.int (Int32.ofNat n)), (.int 0), (.int (Int32.ofNat (123 :: ([a0, a1, a2, a3].take n) ++ 125 :: ([s0, s1].take m)).length)), (.int (0 : Int32)), (.ref d)] rfl ?_
        have hpre : ∀ (i : Nat) (c : Int32), (123 :: ([a0, a1, a2, a3].take n) ++ 125 :: ([s0, s1].take m))[i]? = some c → (123 :: ([a0, a1, a2, a3].take n ++ 125 :: [s0, s1]))[i]? = some c := fun i c z => pre_take (xs := 123 :: (([a0, a1, a2, a3].take n) ++ [125])) (ys := [s0, s1]) (m := m) (i := i) (c := c) (by simpa using z) |> fun y => by simpa using y
        refine Wp.at #[.val (.long i0), .second, .val (.int i1), .val (.int i2), .val (.int i3), .val (.int (Int32.ofNat n)), .val (.int (Int32.ofNat m)), .val (.int a0), .val (.int a1), .val (.int a2), .val (.int a3), .val (.int s0), .val (.int s1), .val (.int 0), .val (.int 1), .val (.ref ka), .val (.ref ma), .val (.ref h2.size), .val (.ref hq10.size), .val (.int (Int32.ofNat (123 :: ([a0, a1, a2, a3].take n) ++ 125 :: ([s0, s1].take m)).length)), .val (.ref d)] [(.ref hq10.size), (.ref h2.size), (.int (Int32.ofNat n)), (.int 0), (.int (Int32.ofNat (123 :: ([a0, a1, a2, a3].take n) ++ 125 :: ([s0, s1].take m)).length)), (.int (Int32.ofNat 0)), (.ref d)] ⟨rfl, rfl⟩ ?_
        refine Wp.callS ok_law (argsL := [(.ref d), (.int (Int32.ofNat 0)), (.int (Int32.ofNat (123 :: ([a0, a1, a2, a3].take n) ++ 125 :: ([s0, s1].take m)).length)), (.int 0), (.int (Int32.ofNat n)), (.ref h2.size), (.ref hq10.size)]) (rest := []) (ct_at0 G (i := 0) (n := n) (kv := [a0, a1, a2, a3]) (sv := [s0, s1]) (by decide) (by simp; omega) (by simp) (by simp) hpre h6 S6 ((AK.ext E4).ext E6) (AS.ext E6)) G.2.1 (G.1 _ (List.mem_of_getElem? (i := 204) rfl)) (G.1 _ (List.mem_of_getElem? (i := 205) rfl)) (G.1 _ (List.mem_of_getElem? (i := 3) rfl)) (G.1 _ (List.mem_of_getElem? (i := 206) rfl)) rfl rfl (by decide) pd_att rfl rfl (Nat.le_of_ble_eq_true rfl) (Nat.le_of_ble_eq_true rfl) (Nat.le_of_ble_eq_true rfl) (Nat.le_of_ble_eq_true rfl) all0 ?_
        rintro _ _ ⟨rfl, rfl⟩ -
        refine Wp.ifF ok_law rfl rfl (show ¬ 1 = (0 : Int32) from by decide) ?_
        refine Wp.run ok_law 7 383 #[.val (.long i0), .second, .val (.int i1), .val (.int i2), .val (.int i3), .val (.int (Int32.ofNat n)), .val (.int (Int32.ofNat m)), .val (.int a0), .val (.int a1), .val (.int a2), .val (.int a3), .val (.int s0), .val (.int s1), .val (.int 0), .val (.int 1), .val (.ref ka), .val (.ref ma), .val (.ref h2.size), .val (.ref hq10.size), .val (.int (Int32.ofNat (123 :: ([a0, a1, a2, a3].take n) ++ 125 :: ([s0, s1].take m)).length)), .val (.ref d)] [(.ref hq10.size), (.ref h2.size), (.int (Int32.ofNat n)), (.int 0), (.int (Int32.ofNat (123 :: ([a0, a1, a2, a3].take n) ++ 125 :: ([s0, s1].take m)).length)), (.int (1 : Int32)), (.ref d)] rfl ?_
        refine Wp.at #[.val (.long i0), .second, .val (.int i1), .val (.int i2), .val (.int i3), .val (.int (Int32.ofNat n)), .val (.int (Int32.ofNat m)), .val (.int a0), .val (.int a1), .val (.int a2), .val (.int a3), .val (.int s0), .val (.int s1), .val (.int 0), .val (.int 1), .val (.ref ka), .val (.ref ma), .val (.ref h2.size), .val (.ref hq10.size), .val (.int (Int32.ofNat (123 :: ([a0, a1, a2, a3].take n) ++ 125 :: ([s0, s1].take m)).length)), .val (.ref d)] [(.ref hq10.size), (.ref h2.size), (.int (Int32.ofNat n)), (.int 0), (.int (Int32.ofNat (123 :: ([a0, a1, a2, a3].take n) ++ 125 :: ([s0, s1].take m)).length)), (.int (Int32.ofNat 1)), (.ref d)] ⟨rfl, rfl⟩ ?_
        refine Wp.callS ok_law (argsL := [(.ref d), (.int (Int32.ofNat 1)), (.int (Int32.ofNat (123 :: ([a0, a1, a2, a3].take n) ++ 125 :: ([s0, s1].take m)).length)), (.int 0), (.int (Int32.ofNat n)), (.ref h2.size), (.ref hq10.size)]) (rest := []) (ct_at0 G (i := 1) (n := n) (kv := [a0, a1, a2, a3]) (sv := [s0, s1]) (by decide) (by simp; omega) (by simp) (by simp) hpre h6 S6 ((AK.ext E4).ext E6) (AS.ext E6)) G.2.1 (G.1 _ (List.mem_of_getElem? (i := 204) rfl)) (G.1 _ (List.mem_of_getElem? (i := 205) rfl)) (G.1 _ (List.mem_of_getElem? (i := 3) rfl)) (G.1 _ (List.mem_of_getElem? (i := 206) rfl)) rfl rfl (by decide) pd_att rfl rfl (Nat.le_of_ble_eq_true rfl) (Nat.le_of_ble_eq_true rfl) (Nat.le_of_ble_eq_true rfl) (Nat.le_of_ble_eq_true rfl) all0 ?_
        rintro _ _ ⟨rfl, rfl⟩ -
        refine Wp.ifF ok_law rfl rfl (show ¬ 1 = (0 : Int32) from by decide) ?_
        refine Wp.run ok_law 7 402 #[.val (.long i0), .second, .val (.int i1), .val (.int i2), .val (.int i3), .val (.int (Int32.ofNat n)), .val (.int (Int32.ofNat m)), .val (.int a0), .val (.int a1), .val (.int a2), .val (.int a3), .val (.int s0), .val (.int s1), .val (.int 0), .val (.int 1), .val (.ref ka), .val (.ref ma), .val (.ref h2.size), .val (.ref hq10.size), .val (.int (Int32.ofNat (123 :: ([a0, a1, a2, a3].take n) ++ 125 :: ([s0, s1].take m)).length)), .val (.ref d)] [(.ref hq10.size), (.ref h2.size), (.int (Int32.ofNat n)), (.int 0), (.int (Int32.ofNat (123 :: ([a0, a1, a2, a3].take n) ++ 125 :: ([s0, s1].take m)).length)), (.int (2 : Int32)), (.ref d)] rfl ?_
        refine Wp.at #[.val (.long i0), .second, .val (.int i1), .val (.int i2), .val (.int i3), .val (.int (Int32.ofNat n)), .val (.int (Int32.ofNat m)), .val (.int a0), .val (.int a1), .val (.int a2), .val (.int a3), .val (.int s0), .val (.int s1), .val (.int 0), .val (.int 1), .val (.ref ka), .val (.ref ma), .val (.ref h2.size), .val (.ref hq10.size), .val (.int (Int32.ofNat (123 :: ([a0, a1, a2, a3].take n) ++ 125 :: ([s0, s1].take m)).length)), .val (.ref d)] [(.ref hq10.size), (.ref h2.size), (.int (Int32.ofNat n)), (.int 0), (.int (Int32.ofNat (123 :: ([a0, a1, a2, a3].take n) ++ 125 :: ([s0, s1].take m)).length)), (.int (Int32.ofNat 2)), (.ref d)] ⟨rfl, rfl⟩ ?_
        refine Wp.callS ok_law (argsL := [(.ref d), (.int (Int32.ofNat 2)), (.int (Int32.ofNat (123 :: ([a0, a1, a2, a3].take n) ++ 125 :: ([s0, s1].take m)).length)), (.int 0), (.int (Int32.ofNat n)), (.ref h2.size), (.ref hq10.size)]) (rest := []) (ct_at0 G (i := 2) (n := n) (kv := [a0, a1, a2, a3]) (sv := [s0, s1]) (by decide) (by simp; omega) (by simp) (by simp) hpre h6 S6 ((AK.ext E4).ext E6) (AS.ext E6)) G.2.1 (G.1 _ (List.mem_of_getElem? (i := 204) rfl)) (G.1 _ (List.mem_of_getElem? (i := 205) rfl)) (G.1 _ (List.mem_of_getElem? (i := 3) rfl)) (G.1 _ (List.mem_of_getElem? (i := 206) rfl)) rfl rfl (by decide) pd_att rfl rfl (Nat.le_of_ble_eq_true rfl) (Nat.le_of_ble_eq_true rfl) (Nat.le_of_ble_eq_true rfl) (Nat.le_of_ble_eq_true rfl) all0 ?_
        rintro _ _ ⟨rfl, rfl⟩ -
        refine Wp.ifF ok_law rfl rfl (show ¬ 1 = (0 : Int32) from by decide) ?_
        refine Wp.run ok_law 7 421 #[.val (.long i0), .second, .val (.int i1), .val (.int i2), .val (.int i3), .val (.int (Int32.ofNat n)), .val (.int (Int32.ofNat m)), .val (.int a0), .val (.int a1), .val (.int a2), .val (.int a3), .val (.int s0), .val (.int s1), .val (.int 0), .val (.int 1), .val (.ref ka), .val (.ref ma), .val (.ref h2.size), .val (.ref hq10.size), .val (.int (Int32.ofNat (123 :: ([a0, a1, a2, a3].take n) ++ 125 :: ([s0, s1].take m)).length)), .val (.ref d)] [(.ref hq10.size), (.ref h2.size), (.int (Int32.ofNat n)), (.int 0), (.int (Int32.ofNat (123 :: ([a0, a1, a2, a3].take n) ++ 125 :: ([s0, s1].take m)).length)), (.int (3 : Int32)), (.ref d)] rfl ?_
        refine Wp.at #[.val (.long i0), .second, .val (.int i1), .val (.int i2), .val (.int i3), .val (.int (Int32.ofNat n)), .val (.int (Int32.ofNat m)), .val (.int a0), .val (.int a1), .val (.int a2), .val (.int a3), .val (.int s0), .val (.int s1), .val (.int 0), .val (.int 1), .val (.ref ka), .val (.ref ma), .val (.ref h2.size), .val (.ref hq10.size), .val (.int (Int32.ofNat (123 :: ([a0, a1, a2, a3].take n) ++ 125 :: ([s0, s1].take m)).length)), .val (.ref d)] [(.ref hq10.size), (.ref h2.size), (.int (Int32.ofNat n)), (.int 0), (.int (Int32.ofNat (123 :: ([a0, a1, a2, a3].take n) ++ 125 :: ([s0, s1].take m)).length)), (.int (Int32.ofNat 3)), (.ref d)] ⟨rfl, rfl⟩ ?_
        refine Wp.callS ok_law (argsL := [(.ref d), (.int (Int32.ofNat 3)), (.int (Int32.ofNat (123 :: ([a0, a1, a2, a3].take n) ++ 125 :: ([s0, s1].take m)).length)), (.int 0), (.int (Int32.ofNat n)), (.ref h2.size), (.ref hq10.size)]) (rest := []) (ct_at0 G (i := 3) (n := n) (kv := [a0, a1, a2, a3]) (sv := [s0, s1]) (by decide) (by simp; omega) (by simp) (by simp) hpre h6 S6 ((AK.ext E4).ext E6) (AS.ext E6)) G.2.1 (G.1 _ (List.mem_of_getElem? (i := 204) rfl)) (G.1 _ (List.mem_of_getElem? (i := 205) rfl)) (G.1 _ (List.mem_of_getElem? (i := 3) rfl)) (G.1 _ (List.mem_of_getElem? (i := 206) rfl)) rfl rfl (by decide) pd_att rfl rfl (Nat.le_of_ble_eq_true rfl) (Nat.le_of_ble_eq_true rfl) (Nat.le_of_ble_eq_true rfl) (Nat.le_of_ble_eq_true rfl) all0 ?_
        rintro _ _ ⟨rfl, rfl⟩ -
        refine Wp.ifF ok_law rfl rfl (show ¬ 1 = (0 : Int32) from by decide) ?_
        refine Wp.run ok_law 7 440 #[.val (.long i0), .second, .val (.int i1), .val (.int i2), .val (.int i3), .val (.int (Int32.ofNat n)), .val (.int (Int32.ofNat m)), .val (.int a0), .val (.int a1), .val (.int a2), .val (.int a3), .val (.int s0), .val (.int s1), .val (.int 0), .val (.int 1), .val (.ref ka), .val (.ref ma), .val (.ref h2.size), .val (.ref hq10.size), .val (.int (Int32.ofNat (123 :: ([a0, a1, a2, a3].take n) ++ 125 :: ([s0, s1].take m)).length)), .val (.ref d)] [(.ref hq10.size), (.ref h2.size), (.int (Int32.ofNat n)), (.int 0), (.int (Int32.ofNat (123 :: ([a0, a1, a2, a3].take n) ++ 125 :: ([s0, s1].take m)).length)), (.int (4 : Int32)), (.ref d)] rfl ?_
        refine Wp.at #[.val (.long i0), .second, .val (.int i1), .val (.int i2), .val (.int i3), .val (.int (Int32.ofNat n)), .val (.int (Int32.ofNat m)), .val (.int a0), .val (.int a1), .val (.int a2), .val (.int a3), .val (.int s0), .val (.int s1), .val (.int 0), .val (.int 1), .val (.ref ka), .val (.ref ma), .val (.ref h2.size), .val (.ref hq10.size), .val (.int (Int32.ofNat (123 :: ([a0, a1, a2, a3].take n) ++ 125 :: ([s0, s1].take m)).length)), .val (.ref d)] [(.ref hq10.size), (.ref h2.size), (.int (Int32.ofNat n)), (.int 0), (.int (Int32.ofNat (123 :: ([a0, a1, a2, a3].take n) ++ 125 :: ([s0, s1].take m)).length)), (.int (Int32.ofNat 4)), (.ref d)] ⟨rfl, rfl⟩ ?_
        refine Wp.callS ok_law (argsL := [(.ref d), (.int (Int32.ofNat 4)), (.int (Int32.ofNat (123 :: ([a0, a1, a2, a3].take n) ++ 125 :: ([s0, s1].take m)).length)), (.int 0), (.int (Int32.ofNat n)), (.ref h2.size), (.ref hq10.size)]) (rest := []) (ct_at0 G (i := 4) (n := n) (kv := [a0, a1, a2, a3]) (sv := [s0, s1]) (by decide) (by simp; omega) (by simp) (by simp) hpre h6 S6 ((AK.ext E4).ext E6) (AS.ext E6)) G.2.1 (G.1 _ (List.mem_of_getElem? (i := 204) rfl)) (G.1 _ (List.mem_of_getElem? (i := 205) rfl)) (G.1 _ (List.mem_of_getElem? (i := 3) rfl)) (G.1 _ (List.mem_of_getElem? (i := 206) rfl)) rfl rfl (by decide) pd_att rfl rfl (Nat.le_of_ble_eq_true rfl) (Nat.le_of_ble_eq_true rfl) (Nat.le_of_ble_eq_true rfl) (Nat.le_of_ble_eq_true rfl) all0 ?_
        rintro _ _ ⟨rfl, rfl⟩ -
        refine Wp.ifF ok_law rfl rfl (show ¬ 1 = (0 : Int32) from by decide) ?_
        refine Wp.run ok_law 7 459 #[.val (.long i0), .second, .val (.int i1), .val (.int i2), .val (.int i3), .val (.int (Int32.ofNat n)), .val (.int (Int32.ofNat m)), .val (.int a0), .val (.int a1), .val (.int a2), .val (.int a3), .val (.int s0), .val (.int s1), .val (.int 0), .val (.int 1), .val (.ref ka), .val (.ref ma), .val (.ref h2.size), .val (.ref hq10.size), .val (.int (Int32.ofNat (123 :: ([a0, a1, a2, a3].take n) ++ 125 :: ([s0, s1].take m)).length)), .val (.ref d)] [(.ref hq10.size), (.ref h2.size), (.int (Int32.ofNat n)), (.int 0), (.int (Int32.ofNat (123 :: ([a0, a1, a2, a3].take n) ++ 125 :: ([s0, s1].take m)).length)), (.int (5 : Int32)), (.ref d)] rfl ?_
        refine Wp.at #[.val (.long i0), .second, .val (.int i1), .val (.int i2), .val (.int i3), .val (.int (Int32.ofNat n)), .val (.int (Int32.ofNat m)), .val (.int a0), .val (.int a1), .val (.int a2), .val (.int a3), .val (.int s0), .val (.int s1), .val (.int 0), .val (.int 1), .val (.ref ka), .val (.ref ma), .val (.ref h2.size), .val (.ref hq10.size), .val (.int (Int32.ofNat (123 :: ([a0, a1, a2, a3].take n) ++ 125 :: ([s0, s1].take m)).length)), .val (.ref d)] [(.ref hq10.size), (.ref h2.size), (.int (Int32.ofNat n)), (.int 0), (.int (Int32.ofNat (123 :: ([a0, a1, a2, a3].take n) ++ 125 :: ([s0, s1].take m)).length)), (.int (Int32.ofNat 5)), (.ref d)] ⟨rfl, rfl⟩ ?_
        refine Wp.callS ok_law (argsL := [(.ref d), (.int (Int32.ofNat 5)), (.int (Int32.ofNat (123 :: ([a0, a1, a2, a3].take n) ++ 125 :: ([s0, s1].take m)).length)), (.int 0), (.int (Int32.ofNat n)), (.ref h2.size), (.ref hq10.size)]) (rest := []) (ct_at0 G (i := 5) (n := n) (kv := [a0, a1, a2, a3]) (sv := [s0, s1]) (by decide) (by simp; omega) (by simp) (by simp) hpre h6 S6 ((AK.ext E4).ext E6) (AS.ext E6)) G.2.1 (G.1 _ (List.mem_of_getElem? (i := 204) rfl)) (G.1 _ (List.mem_of_getElem? (i := 205) rfl)) (G.1 _ (List.mem_of_getElem? (i := 3) rfl)) (G.1 _ (List.mem_of_getElem? (i := 206) rfl)) rfl rfl (by decide) pd_att rfl rfl (Nat.le_of_ble_eq_true rfl) (Nat.le_of_ble_eq_true rfl) (Nat.le_of_ble_eq_true rfl) (Nat.le_of_ble_eq_true rfl) all0 ?_
        rintro _ _ ⟨rfl, rfl⟩ -
        refine Wp.ifF ok_law rfl rfl (show ¬ 1 = (0 : Int32) from by decide) ?_
        refine Wp.run ok_law 7 479 #[.val (.long i0), .second, .val (.int i1), .val (.int i2), .val (.int i3), .val (.int (Int32.ofNat n)), .val (.int (Int32.ofNat m)), .val (.int a0), .val (.int a1), .val (.int a2), .val (.int a3), .val (.int s0), .val (.int s1), .val (.int 0), .val (.int 1), .val (.ref ka), .val (.ref ma), .val (.ref h2.size), .val (.ref hq10.size), .val (.int (Int32.ofNat (123 :: ([a0, a1, a2, a3].take n) ++ 125 :: ([s0, s1].take m)).length)), .val (.ref d)] [(.ref hq10.size), (.ref h2.size), (.int (Int32.ofNat n)), (.int 0), (.int (Int32.ofNat (123 :: ([a0, a1, a2, a3].take n) ++ 125 :: ([s0, s1].take m)).length)), (.int (6 : Int32)), (.ref d)] rfl ?_
        refine Wp.at #[.val (.long i0), .second, .val (.int i1), .val (.int i2), .val (.int i3), .val (.int (Int32.ofNat n)), .val (.int (Int32.ofNat m)), .val (.int a0), .val (.int a1), .val (.int a2), .val (.int a3), .val (.int s0), .val (.int s1), .val (.int 0), .val (.int 1), .val (.ref ka), .val (.ref ma), .val (.ref h2.size), .val (.ref hq10.size), .val (.int (Int32.ofNat (123 :: ([a0, a1, a2, a3].take n) ++ 125 :: ([s0, s1].take m)).length)), .val (.ref d)] [(.ref hq10.size), (.ref h2.size), (.int (Int32.ofNat n)), (.int 0), (.int (Int32.ofNat (123 :: ([a0, a1, a2, a3].take n) ++ 125 :: ([s0, s1].take m)).length)), (.int (Int32.ofNat 6)), (.ref d)] ⟨rfl, rfl⟩ ?_
        refine Wp.callS ok_law (argsL := [(.ref d), (.int (Int32.ofNat 6)), (.int (Int32.ofNat (123 :: ([a0, a1, a2, a3].take n) ++ 125 :: ([s0, s1].take m)).length)), (.int 0), (.int (Int32.ofNat n)), (.ref h2.size), (.ref hq10.size)]) (rest := []) (ct_at0 G (i := 6) (n := n) (kv := [a0, a1, a2, a3]) (sv := [s0, s1]) (by decide) (by simp; omega) (by simp) (by simp) hpre h6 S6 ((AK.ext E4).ext E6) (AS.ext E6)) G.2.1 (G.1 _ (List.mem_of_getElem? (i := 204) rfl)) (G.1 _ (List.mem_of_getElem? (i := 205) rfl)) (G.1 _ (List.mem_of_getElem? (i := 3) rfl)) (G.1 _ (List.mem_of_getElem? (i := 206) rfl)) rfl rfl (by decide) pd_att rfl rfl (Nat.le_of_ble_eq_true rfl) (Nat.le_of_ble_eq_true rfl) (Nat.le_of_ble_eq_true rfl) (Nat.le_of_ble_eq_true rfl) all0 ?_
        rintro _ _ ⟨rfl, rfl⟩ -
        refine Wp.ifF ok_law rfl rfl (show ¬ 1 = (0 : Int32) from by decide) ?_
        refine Wp.run ok_law 7 499 #[.val (.long i0), .second, .val (.int i1), .val (.int i2), .val (.int i3), .val (.int (Int32.ofNat n)), .val (.int (Int32.ofNat m)), .val (.int a0), .val (.int a1), .val (.int a2), .val (.int a3), .val (.int s0), .val (.int s1), .val (.int 0), .val (.int 1), .val (.ref ka), .val (.ref ma), .val (.ref h2.size), .val (.ref hq10.size), .val (.int (Int32.ofNat (123 :: ([a0, a1, a2, a3].take n) ++ 125 :: ([s0, s1].take m)).length)), .val (.ref d)] [(.ref hq10.size), (.ref h2.size), (.int (Int32.ofNat n)), (.int 0), (.int (Int32.ofNat (123 :: ([a0, a1, a2, a3].take n) ++ 125 :: ([s0, s1].take m)).length)), (.int (7 : Int32)), (.ref d)] rfl ?_
        refine Wp.at #[.val (.long i0), .second, .val (.int i1), .val (.int i2), .val (.int i3), .val (.int (Int32.ofNat n)), .val (.int (Int32.ofNat m)), .val (.int a0), .val (.int a1), .val (.int a2), .val (.int a3), .val (.int s0), .val (.int s1), .val (.int 0), .val (.int 1), .val (.ref ka), .val (.ref ma), .val (.ref h2.size), .val (.ref hq10.size), .val (.int (Int32.ofNat (123 :: ([a0, a1, a2, a3].take n) ++ 125 :: ([s0, s1].take m)).length)), .val (.ref d)] [(.ref hq10.size), (.ref h2.size), (.int (Int32.ofNat n)), (.int 0), (.int (Int32.ofNat (123 :: ([a0, a1, a2, a3].take n) ++ 125 :: ([s0, s1].take m)).length)), (.int (Int32.ofNat 7)), (.ref d)] ⟨rfl, rfl⟩ ?_
        refine Wp.callS ok_law (argsL := [(.ref d), (.int (Int32.ofNat 7)), (.int (Int32.ofNat (123 :: ([a0, a1, a2, a3].take n) ++ 125 :: ([s0, s1].take m)).length)), (.int 0), (.int (Int32.ofNat n)), (.ref h2.size), (.ref hq10.size)]) (rest := []) (ct_at0 G (i := 7) (n := n) (kv := [a0, a1, a2, a3]) (sv := [s0, s1]) (by decide) (by simp; omega) (by simp) (by simp) hpre h6 S6 ((AK.ext E4).ext E6) (AS.ext E6)) G.2.1 (G.1 _ (List.mem_of_getElem? (i := 204) rfl)) (G.1 _ (List.mem_of_getElem? (i := 205) rfl)) (G.1 _ (List.mem_of_getElem? (i := 3) rfl)) (G.1 _ (List.mem_of_getElem? (i := 206) rfl)) rfl rfl (by decide) pd_att rfl rfl (Nat.le_of_ble_eq_true rfl) (Nat.le_of_ble_eq_true rfl) (Nat.le_of_ble_eq_true rfl) (Nat.le_of_ble_eq_true rfl) all0 ?_
        rintro _ _ ⟨rfl, rfl⟩ -
        refine Wp.ifF ok_law rfl rfl (show ¬ 1 = (0 : Int32) from by decide) ?_
        refine Wp.run ok_law 2 510 #[.val (.long i0), .second, .val (.int i1), .val (.int i2), .val (.int i3), .val (.int (Int32.ofNat n)), .val (.int (Int32.ofNat m)), .val (.int a0), .val (.int a1), .val (.int a2), .val (.int a3), .val (.int s0), .val (.int s1), .val (.int 0), .val (.int 1), .val (.ref ka), .val (.ref ma), .val (.ref h2.size), .val (.ref hq10.size), .val (.int (Int32.ofNat (123 :: ([a0, a1, a2, a3].take n) ++ 125 :: ([s0, s1].take m)).length)), .val (.ref d)] [(.int (1 : Int32))] rfl ?_
        exact Wp.retI ok_law (t := .boolean) rfl (by decide) rfl rfl rfl rfl
    have r183 : ∀ t : Int32, (t = 1 ∧ (tg ([a0, a1, a2, a3].take n)).isSome = true) ∨ (t = 0 ∧ ¬ (tg ([a0, a1, a2, a3].take n)).isSome = true) → Wp l Z EL1 mt_law room_1 h [] 0 0 183 #[.val (.long i0), .second, .val (.int i1), .val (.int i2), .val (.int i3), .val (.int (Int32.ofNat n)), .val (.int (Int32.ofNat m)), .val (.int a0), .val (.int a1), .val (.int a2), .val (.int a3), .val (.int s0), .val (.int s1), .unset, .unset, .unset, .unset, .unset, .unset, .unset, .unset] [(.int t)] (fun v _ => v = some (.int 1)) := by
      intro t ht
      rcases ht with ⟨rfl, hT⟩ | ⟨rfl, hT⟩
      · refine Wp.run ok_law 2 187 #[.val (.long i0), .second, .val (.int i1), .val (.int i2), .val (.int i3), .val (.int (Int32.ofNat n)), .val (.int (Int32.ofNat m)), .val (.int a0), .val (.int a1), .val (.int a2), .val (.int a3), .val (.int s0), .val (.int s1), .val (.int 1), .unset, .unset, .unset, .unset, .unset, .unset, .unset] [(.int 1)] rfl ?_
        refine Wp.ifT ok_law 223 rfl rfl (show ¬ 1 = (0 : Int32) from by decide) (by decide) (by decide) ?_
        refine Wp.run ok_law 4 232 #[.val (.long i0), .second, .val (.int i1), .val (.int i2), .val (.int i3), .val (.int (Int32.ofNat n)), .val (.int (Int32.ofNat m)), .val (.int a0), .val (.int a1), .val (.int a2), .val (.int a3), .val (.int s0), .val (.int s1), .val (.int 1), .val (.int (1 : Int32)), .unset, .unset, .unset, .unset, .unset, .unset] [(.int (1 : Int32))] rfl ?_
        refine Wp.ifT ok_law 237 rfl rfl (show ¬ (1 : Int32) = (0 : Int32) from by decide) (by decide) (by decide) ?_
        exact r237 1 (Or.inl ⟨rfl, hT⟩)
      · refine Wp.run ok_law 2 187 #[.val (.long i0), .second, .val (.int i1), .val (.int i2), .val (.int i3), .val (.int (Int32.ofNat n)), .val (.int (Int32.ofNat m)), .val (.int a0), .val (.int a1), .val (.int a2), .val (.int a3), .val (.int s0), .val (.int s1), .val (.int 0), .unset, .unset, .unset, .unset, .unset, .unset, .unset] [(.int 0)] rfl ?_
        refine Wp.ifF ok_law rfl rfl (show 0 = (0 : Int32) from rfl) ?_
        refine Wp.run ok_law 1 192 #[.val (.long i0), .second, .val (.int i1), .val (.int i2), .val (.int i3), .val (.int (Int32.ofNat n)), .val (.int (Int32.ofNat m)), .val (.int a0), .val (.int a1), .val (.int a2), .val (.int a3), .val (.int s0), .val (.int s1), .val (.int 0), .unset, .unset, .unset, .unset, .unset, .unset, .unset] [(.int (Int32.ofNat n))] rfl ?_
        refine Wp.if0 ok_law 227 rfl rfl (by decide) (by decide) (fun g => ?_) (fun g => ?_)
        · replace g : ¬ (0 : Int32) < (Int32.ofNat n) := g
          refine Wp.run ok_law 3 232 #[.val (.long i0), .second, .val (.int i1), .val (.int i2), .val (.int i3), .val (.int (Int32.ofNat n)), .val (.int (Int32.ofNat m)), .val (.int a0), .val (.int a1), .val (.int a2), .val (.int a3), .val (.int s0), .val (.int s1), .val (.int 0), .val (.int (0 : Int32)), .unset, .unset, .unset, .unset, .unset, .unset] [(.int (0 : Int32))] rfl ?_
          refine Wp.ifF ok_law rfl rfl (show (0 : Int32) = (0 : Int32) from rfl) ?_
          refine Wp.run ok_law 1 236 #[.val (.long i0), .second, .val (.int i1), .val (.int i2), .val (.int i3), .val (.int (Int32.ofNat n)), .val (.int (Int32.ofNat m)), .val (.int a0), .val (.int a1), .val (.int a2), .val (.int a3), .val (.int s0), .val (.int s1), .val (.int 0), .val (.int (0 : Int32)), .unset, .unset, .unset, .unset, .unset, .unset] [(.int (1 : Int32))] rfl ?_
          exact Wp.retI ok_law (t := .boolean) rfl (by decide) rfl rfl rfl rfl
        · replace g : (0 : Int32) < (Int32.ofNat n) := g
          have hne : ([a0, a1, a2, a3].take n) ≠ [] := fun e => by
            have z : n = 0 := by rw [← hkl, e]; rfl
            rw [z] at g; exact absurd g (by decide)
          refine Wp.run ok_law 2 199 #[.val (.long i0), .second, .val (.int i1), .val (.int i2), .val (.int i3), .val (.int (Int32.ofNat n)), .val (.int (Int32.ofNat m)), .val (.int a0), .val (.int a1), .val (.int a2), .val (.int a3), .val (.int s0), .val (.int s1), .val (.int 0), .unset, .unset, .unset, .unset, .unset, .unset, .unset] [(.int (125 : Int32)), (.int a0)] rfl ?_
          refine Wp.icmp ok_law 227 rfl rfl (by decide) (by decide) (fun g0 => ?_) (fun g0 => ?_)
          · replace g0 : a0 = (125 : Int32) := g0
            refine Wp.run ok_law 3 232 #[.val (.long i0), .second, .val (.int i1), .val (.int i2), .val (.int i3), .val (.int (Int32.ofNat n)), .val (.int (Int32.ofNat m)), .val (.int a0), .val (.int a1), .val (.int a2), .val (.int a3), .val (.int s0), .val (.int s1), .val (.int 0), .val (.int (0 : Int32)), .unset, .unset, .unset, .unset, .unset, .unset] [(.int (0 : Int32))] rfl ?_
            refine Wp.ifF ok_law rfl rfl (show (0 : Int32) = (0 : Int32) from rfl) ?_
            refine Wp.run ok_law 1 236 #[.val (.long i0), .second, .val (.int i1), .val (.int i2), .val (.int i3), .val (.int (Int32.ofNat n)), .val (.int (Int32.ofNat m)), .val (.int a0), .val (.int a1), .val (.int a2), .val (.int a3), .val (.int s0), .val (.int s1), .val (.int 0), .val (.int (0 : Int32)), .unset, .unset, .unset, .unset, .unset, .unset] [(.int (1 : Int32))] rfl ?_
            exact Wp.retI ok_law (t := .boolean) rfl (by decide) rfl rfl rfl rfl
          · replace g0 : ¬ a0 = (125 : Int32) := g0
            refine Wp.run ok_law 2 206 #[.val (.long i0), .second, .val (.int i1), .val (.int i2), .val (.int i3), .val (.int (Int32.ofNat n)), .val (.int (Int32.ofNat m)), .val (.int a0), .val (.int a1), .val (.int a2), .val (.int a3), .val (.int s0), .val (.int s1), .val (.int 0), .unset, .unset, .unset, .unset, .unset, .unset, .unset] [(.int (125 : Int32)), (.int a1)] rfl ?_
            refine Wp.icmp ok_law 227 rfl rfl (by decide) (by decide) (fun g1 => ?_) (fun g1 => ?_)
            · replace g1 : a1 = (125 : Int32) := g1
              refine Wp.run ok_law 3 232 #[.val (.long i0), .second, .val (.int i1), .val (.int i2), .val (.int i3), .val (.int (Int32.ofNat n)), .val (.int (Int32.ofNat m)), .val (.int a0), .val (.int a1), .val (.int a2), .val (.int a3), .val (.int s0), .val (.int s1), .val (.int 0), .val (.int (0 : Int32)), .unset, .unset, .unset, .unset, .unset, .unset] [(.int (0 : Int32))] rfl ?_
              refine Wp.ifF ok_law rfl rfl (show (0 : Int32) = (0 : Int32) from rfl) ?_
              refine Wp.run ok_law 1 236 #[.val (.long i0), .second, .val (.int i1), .val (.int i2), .val (.int i3), .val (.int (Int32.ofNat n)), .val (.int (Int32.ofNat m)), .val (.int a0), .val (.int a1), .val (.int a2), .val (.int a3), .val (.int s0), .val (.int s1), .val (.int 0), .val (.int (0 : Int32)), .unset, .unset, .unset, .unset, .unset, .unset] [(.int (1 : Int32))] rfl ?_
              exact Wp.retI ok_law (t := .boolean) rfl (by decide) rfl rfl rfl rfl
            · replace g1 : ¬ a1 = (125 : Int32) := g1
              refine Wp.run ok_law 2 213 #[.val (.long i0), .second, .val (.int i1), .val (.int i2), .val (.int i3), .val (.int (Int32.ofNat n)), .val (.int (Int32.ofNat m)), .val (.int a0), .val (.int a1), .val (.int a2), .val (.int a3), .val (.int s0), .val (.int s1), .val (.int 0), .unset, .unset, .unset, .unset, .unset, .unset, .unset] [(.int (125 : Int32)), (.int a2)] rfl ?_
              refine Wp.icmp ok_law 227 rfl rfl (by decide) (by decide) (fun g2 => ?_) (fun g2 => ?_)
              · replace g2 : a2 = (125 : Int32) := g2
                refine Wp.run ok_law 3 232 #[.val (.long i0), .second, .val (.int i1), .val (.int i2), .val (.int i3), .val (.int (Int32.ofNat n)), .val (.int (Int32.ofNat m)), .val (.int a0), .val (.int a1), .val (.int a2), .val (.int a3), .val (.int s0), .val (.int s1), .val (.int 0), .val (.int (0 : Int32)), .unset, .unset, .unset, .unset, .unset, .unset] [(.int (0 : Int32))] rfl ?_
                refine Wp.ifF ok_law rfl rfl (show (0 : Int32) = (0 : Int32) from rfl) ?_
                refine Wp.run ok_law 1 236 #[.val (.long i0), .second, .val (.int i1), .val (.int i2), .val (.int i3), .val (.int (Int32.ofNat n)), .val (.int (Int32.ofNat m)), .val (.int a0), .val (.int a1), .val (.int a2), .val (.int a3), .val (.int s0), .val (.int s1), .val (.int 0), .val (.int (0 : Int32)), .unset, .unset, .unset, .unset, .unset, .unset] [(.int (1 : Int32))] rfl ?_
                exact Wp.retI ok_law (t := .boolean) rfl (by decide) rfl rfl rfl rfl
              · replace g2 : ¬ a2 = (125 : Int32) := g2
                refine Wp.run ok_law 2 220 #[.val (.long i0), .second, .val (.int i1), .val (.int i2), .val (.int i3), .val (.int (Int32.ofNat n)), .val (.int (Int32.ofNat m)), .val (.int a0), .val (.int a1), .val (.int a2), .val (.int a3), .val (.int s0), .val (.int s1), .val (.int 0), .unset, .unset, .unset, .unset, .unset, .unset, .unset] [(.int (125 : Int32)), (.int a3)] rfl ?_
                refine Wp.icmp ok_law 227 rfl rfl (by decide) (by decide) (fun g3 => ?_) (fun g3 => ?_)
                · replace g3 : a3 = (125 : Int32) := g3
                  refine Wp.run ok_law 3 232 #[.val (.long i0), .second, .val (.int i1), .val (.int i2), .val (.int i3), .val (.int (Int32.ofNat n)), .val (.int (Int32.ofNat m)), .val (.int a0), .val (.int a1), .val (.int a2), .val (.int a3), .val (.int s0), .val (.int s1), .val (.int 0), .val (.int (0 : Int32)), .unset, .unset, .unset, .unset, .unset, .unset] [(.int (0 : Int32))] rfl ?_
                  refine Wp.ifF ok_law rfl rfl (show (0 : Int32) = (0 : Int32) from rfl) ?_
                  refine Wp.run ok_law 1 236 #[.val (.long i0), .second, .val (.int i1), .val (.int i2), .val (.int i3), .val (.int (Int32.ofNat n)), .val (.int (Int32.ofNat m)), .val (.int a0), .val (.int a1), .val (.int a2), .val (.int a3), .val (.int s0), .val (.int s1), .val (.int 0), .val (.int (0 : Int32)), .unset, .unset, .unset, .unset, .unset, .unset] [(.int (1 : Int32))] rfl ?_
                  exact Wp.retI ok_law (t := .boolean) rfl (by decide) rfl rfl rfl rfl
                · replace g3 : ¬ a3 = (125 : Int32) := g3
                  refine Wp.run ok_law 4 232 #[.val (.long i0), .second, .val (.int i1), .val (.int i2), .val (.int i3), .val (.int (Int32.ofNat n)), .val (.int (Int32.ofNat m)), .val (.int a0), .val (.int a1), .val (.int a2), .val (.int a3), .val (.int s0), .val (.int s1), .val (.int 0), .val (.int (1 : Int32)), .unset, .unset, .unset, .unset, .unset, .unset] [(.int (1 : Int32))] rfl ?_
                  refine Wp.ifT ok_law 237 rfl rfl (show ¬ (1 : Int32) = (0 : Int32) from by decide) (by decide) (by decide) ?_
                  exact r237 0 (Or.inr ⟨rfl, hT, hne, dr_fx da0 da1 da2 da3 g0 g1 g2 g3⟩)
    have dt := dr_tg da0 da1 da2 da3
    refine Wp.run ok_law 2 126 #[.val (.long i0), .second, .val (.int i1), .val (.int i2), .val (.int i3), .val (.int (Int32.ofNat n)), .val (.int (Int32.ofNat m)), .val (.int a0), .val (.int a1), .val (.int a2), .val (.int a3), .val (.int s0), .val (.int s1), .unset, .unset, .unset, .unset, .unset, .unset, .unset, .unset] [(.int (123 : Int32)), (.int a0)] rfl ?_
    refine Wp.icmp ok_law 150 rfl rfl (by decide) (by decide) (fun b0 => ?_) (fun b0 => ?_)
    · replace b0 : ¬ a0 = (123 : Int32) := b0
      refine Wp.run ok_law 2 154 #[.val (.long i0), .second, .val (.int i1), .val (.int i2), .val (.int i3), .val (.int (Int32.ofNat n)), .val (.int (Int32.ofNat m)), .val (.int a0), .val (.int a1), .val (.int a2), .val (.int a3), .val (.int s0), .val (.int s1), .unset, .unset, .unset, .unset, .unset, .unset, .unset, .unset] [(.int (123 : Int32)), (.int a0)] rfl ?_
      refine Wp.icmpF ok_law rfl rfl (show ¬ a0 = (123 : Int32) from b0) ?_
      refine Wp.run ok_law 2 161 #[.val (.long i0), .second, .val (.int i1), .val (.int i2), .val (.int i3), .val (.int (Int32.ofNat n)), .val (.int (Int32.ofNat m)), .val (.int a0), .val (.int a1), .val (.int a2), .val (.int a3), .val (.int s0), .val (.int s1), .unset, .unset, .unset, .unset, .unset, .unset, .unset, .unset] [(.int (123 : Int32)), (.int a1)] rfl ?_
      refine Wp.icmp ok_law 182 rfl rfl (by decide) (by decide) (fun b1 => ?_) (fun b1 => ?_)
      · replace b1 : ¬ a1 = (123 : Int32) := b1
        refine Wp.run ok_law 1 183 #[.val (.long i0), .second, .val (.int i1), .val (.int i2), .val (.int i3), .val (.int (Int32.ofNat n)), .val (.int (Int32.ofNat m)), .val (.int a0), .val (.int a1), .val (.int a2), .val (.int a3), .val (.int s0), .val (.int s1), .unset, .unset, .unset, .unset, .unset, .unset, .unset, .unset] [(.int (0 : Int32))] rfl ?_
        exact r183 0 (Or.inr ⟨rfl, fun z => absurd (dt.mp z) (by simp [Tgd, b0, b1])⟩)
      · replace b1 : a1 = (123 : Int32) := b1
        refine Wp.run ok_law 2 168 #[.val (.long i0), .second, .val (.int i1), .val (.int i2), .val (.int i3), .val (.int (Int32.ofNat n)), .val (.int (Int32.ofNat m)), .val (.int a0), .val (.int a1), .val (.int a2), .val (.int a3), .val (.int s0), .val (.int s1), .unset, .unset, .unset, .unset, .unset, .unset, .unset, .unset] [(.int (125 : Int32)), (.int a2)] rfl ?_
        refine Wp.icmp ok_law 182 rfl rfl (by decide) (by decide) (fun b2 => ?_) (fun b2 => ?_)
        · replace b2 : a2 = (125 : Int32) := b2
          refine Wp.run ok_law 1 183 #[.val (.long i0), .second, .val (.int i1), .val (.int i2), .val (.int i3), .val (.int (Int32.ofNat n)), .val (.int (Int32.ofNat m)), .val (.int a0), .val (.int a1), .val (.int a2), .val (.int a3), .val (.int s0), .val (.int s1), .unset, .unset, .unset, .unset, .unset, .unset, .unset, .unset] [(.int (0 : Int32))] rfl ?_
          exact r183 0 (Or.inr ⟨rfl, fun z => absurd (dt.mp z) (by simp [Tgd, b0, b1, b2])⟩)
        · replace b2 : ¬ a2 = (125 : Int32) := b2
          refine Wp.run ok_law 2 175 #[.val (.long i0), .second, .val (.int i1), .val (.int i2), .val (.int i3), .val (.int (Int32.ofNat n)), .val (.int (Int32.ofNat m)), .val (.int a0), .val (.int a1), .val (.int a2), .val (.int a3), .val (.int s0), .val (.int s1), .unset, .unset, .unset, .unset, .unset, .unset, .unset, .unset] [(.int (125 : Int32)), (.int a3)] rfl ?_
          refine Wp.icmp ok_law 182 rfl rfl (by decide) (by decide) (fun b3 => ?_) (fun b3 => ?_)
          · replace b3 : ¬ a3 = (125 : Int32) := b3
            refine Wp.run ok_law 1 183 #[.val (.long i0), .second, .val (.int i1), .val (.int i2), .val (.int i3), .val (.int (Int32.ofNat n)), .val (.int (Int32.ofNat m)), .val (.int a0), .val (.int a1), .val (.int a2), .val (.int a3), .val (.int s0), .val (.int s1), .unset, .unset, .unset, .unset, .unset, .unset, .unset, .unset] [(.int (0 : Int32))] rfl ?_
            exact r183 0 (Or.inr ⟨rfl, fun z => absurd (dt.mp z) (by simp [Tgd, b0, b1, b2, b3])⟩)
          · replace b3 : a3 = (125 : Int32) := b3
            refine Wp.run ok_law 2 183 #[.val (.long i0), .second, .val (.int i1), .val (.int i2), .val (.int i3), .val (.int (Int32.ofNat n)), .val (.int (Int32.ofNat m)), .val (.int a0), .val (.int a1), .val (.int a2), .val (.int a3), .val (.int s0), .val (.int s1), .unset, .unset, .unset, .unset, .unset, .unset, .unset, .unset] [(.int (1 : Int32))] rfl ?_
            exact r183 1 (Or.inl ⟨rfl, dt.mpr (by simp [Tgd, b0, b1, b2, b3])⟩)
    · replace b0 : a0 = (123 : Int32) := b0
      refine Wp.run ok_law 2 133 #[.val (.long i0), .second, .val (.int i1), .val (.int i2), .val (.int i3), .val (.int (Int32.ofNat n)), .val (.int (Int32.ofNat m)), .val (.int a0), .val (.int a1), .val (.int a2), .val (.int a3), .val (.int s0), .val (.int s1), .unset, .unset, .unset, .unset, .unset, .unset, .unset, .unset] [(.int (125 : Int32)), (.int a1)] rfl ?_
      refine Wp.icmp ok_law 150 rfl rfl (by decide) (by decide) (fun b1 => ?_) (fun b1 => ?_)
      · replace b1 : a1 = (125 : Int32) := b1
        refine Wp.run ok_law 2 154 #[.val (.long i0), .second, .val (.int i1), .val (.int i2), .val (.int i3), .val (.int (Int32.ofNat n)), .val (.int (Int32.ofNat m)), .val (.int a0), .val (.int a1), .val (.int a2), .val (.int a3), .val (.int s0), .val (.int s1), .unset, .unset, .unset, .unset, .unset, .unset, .unset, .unset] [(.int (123 : Int32)), (.int a0)] rfl ?_
        refine Wp.icmpT ok_law 182 rfl rfl (show a0 = (123 : Int32) from b0) (by decide) (by decide) ?_
        refine Wp.run ok_law 1 183 #[.val (.long i0), .second, .val (.int i1), .val (.int i2), .val (.int i3), .val (.int (Int32.ofNat n)), .val (.int (Int32.ofNat m)), .val (.int a0), .val (.int a1), .val (.int a2), .val (.int a3), .val (.int s0), .val (.int s1), .unset, .unset, .unset, .unset, .unset, .unset, .unset, .unset] [(.int (0 : Int32))] rfl ?_
        exact r183 0 (Or.inr ⟨rfl, fun z => absurd (dt.mp z) (by simp [Tgd, b0, b1])⟩)
      · replace b1 : ¬ a1 = (125 : Int32) := b1
        refine Wp.run ok_law 2 140 #[.val (.long i0), .second, .val (.int i1), .val (.int i2), .val (.int i3), .val (.int (Int32.ofNat n)), .val (.int (Int32.ofNat m)), .val (.int a0), .val (.int a1), .val (.int a2), .val (.int a3), .val (.int s0), .val (.int s1), .unset, .unset, .unset, .unset, .unset, .unset, .unset, .unset] [(.int (125 : Int32)), (.int a2)] rfl ?_
        refine Wp.icmp ok_law 178 rfl rfl (by decide) (by decide) (fun b2 => ?_) (fun b2 => ?_)
        · replace b2 : a2 = (125 : Int32) := b2
          refine Wp.run ok_law 2 183 #[.val (.long i0), .second, .val (.int i1), .val (.int i2), .val (.int i3), .val (.int (Int32.ofNat n)), .val (.int (Int32.ofNat m)), .val (.int a0), .val (.int a1), .val (.int a2), .val (.int a3), .val (.int s0), .val (.int s1), .unset, .unset, .unset, .unset, .unset, .unset, .unset, .unset] [(.int (1 : Int32))] rfl ?_
          exact r183 1 (Or.inl ⟨rfl, dt.mpr (by simp [Tgd, b0, b1, b2])⟩)
        · replace b2 : ¬ a2 = (125 : Int32) := b2
          refine Wp.run ok_law 2 147 #[.val (.long i0), .second, .val (.int i1), .val (.int i2), .val (.int i3), .val (.int (Int32.ofNat n)), .val (.int (Int32.ofNat m)), .val (.int a0), .val (.int a1), .val (.int a2), .val (.int a3), .val (.int s0), .val (.int s1), .unset, .unset, .unset, .unset, .unset, .unset, .unset, .unset] [(.int (125 : Int32)), (.int a3)] rfl ?_
          refine Wp.icmp ok_law 178 rfl rfl (by decide) (by decide) (fun b3 => ?_) (fun b3 => ?_)
          · replace b3 : a3 = (125 : Int32) := b3
            refine Wp.run ok_law 2 183 #[.val (.long i0), .second, .val (.int i1), .val (.int i2), .val (.int i3), .val (.int (Int32.ofNat n)), .val (.int (Int32.ofNat m)), .val (.int a0), .val (.int a1), .val (.int a2), .val (.int a3), .val (.int s0), .val (.int s1), .unset, .unset, .unset, .unset, .unset, .unset, .unset, .unset] [(.int (1 : Int32))] rfl ?_
            exact r183 1 (Or.inl ⟨rfl, dt.mpr (by simp [Tgd, b0, b1, b2, b3])⟩)
          · replace b3 : ¬ a3 = (125 : Int32) := b3
            refine Wp.run ok_law 2 154 #[.val (.long i0), .second, .val (.int i1), .val (.int i2), .val (.int i3), .val (.int (Int32.ofNat n)), .val (.int (Int32.ofNat m)), .val (.int a0), .val (.int a1), .val (.int a2), .val (.int a3), .val (.int s0), .val (.int s1), .unset, .unset, .unset, .unset, .unset, .unset, .unset, .unset] [(.int (123 : Int32)), (.int a0)] rfl ?_
            refine Wp.icmpT ok_law 182 rfl rfl (show a0 = (123 : Int32) from b0) (by decide) (by decide) ?_
            refine Wp.run ok_law 1 183 #[.val (.long i0), .second, .val (.int i1), .val (.int i2), .val (.int i3), .val (.int (Int32.ofNat n)), .val (.int (Int32.ofNat m)), .val (.int a0), .val (.int a1), .val (.int a2), .val (.int a3), .val (.int s0), .val (.int s1), .unset, .unset, .unset, .unset, .unset, .unset, .unset, .unset] [(.int (0 : Int32))] rfl ?_
            exact r183 0 (Or.inr ⟨rfl, fun z => absurd (dt.mp z) (by simp [Tgd, b0, b1, b2, b3])⟩)
  have r101 : ∀ a0 a1 a2 a3 s0 : Int32, Dr n 0 a0 → Dr n 1 a1 → Dr n 2 a2 → Dr n 3 a3 → Dr m 0 s0 → Wp l Z EL1 mt_law room_1 h [] 0 0 101 #[.val (.long i0), .second, .val (.int i1), .val (.int i2), .val (.int i3), .val (.int (Int32.ofNat n)), .val (.int (Int32.ofNat m)), .val (.int a0), .val (.int a1), .val (.int a2), .val (.int a3), .val (.int s0), .unset, .unset, .unset, .unset, .unset, .unset, .unset, .unset, .unset] [] (fun v _ => v = some (.int 1)) := by
    intro a0 a1 a2 a3 s0 da0 da1 da2 da3 ds0
    refine Wp.run ok_law 2 104 #[.val (.long i0), .second, .val (.int i1), .val (.int i2), .val (.int i3), .val (.int (Int32.ofNat n)), .val (.int (Int32.ofNat m)), .val (.int a0), .val (.int a1), .val (.int a2), .val (.int a3), .val (.int s0), .unset, .unset, .unset, .unset, .unset, .unset, .unset, .unset, .unset] [(.int (1 : Int32)), (.int (Int32.ofNat m))] rfl ?_
    refine Wp.icmp ok_law 119 rfl rfl (by decide) (by decide) (fun hq => ?_) (fun hq => ?_)
    · replace hq : ¬ (1 : Int32) < (Int32.ofNat m) := hq
      refine Wp.run ok_law 2 122 #[.val (.long i0), .second, .val (.int i1), .val (.int i2), .val (.int i3), .val (.int (Int32.ofNat n)), .val (.int (Int32.ofNat m)), .val (.int a0), .val (.int a1), .val (.int a2), .val (.int a3), .val (.int s0), .val (.int (0 : Int32)), .unset, .unset, .unset, .unset, .unset, .unset, .unset, .unset] [] rfl ?_
      exact r122 a0 a1 a2 a3 s0 0 da0 da1 da2 da3 ds0 ⟨by decide, fun _ => rfl⟩
    · replace hq : (1 : Int32) < (Int32.ofNat m) := hq
      have hlt : 1 < m := (n_lt (i := 1) (by decide) (by omega)).mp hq
      refine Wp.run ok_law 8 122 #[.val (.long i0), .second, .val (.int i1), .val (.int i2), .val (.int i3), .val (.int (Int32.ofNat n)), .val (.int (Int32.ofNat m)), .val (.int a0), .val (.int a1), .val (.int a2), .val (.int a3), .val (.int s0), .val (.int (c16 ((ush i2 (8 : Int32)) &&& (255 : Int32)))), .unset, .unset, .unset, .unset, .unset, .unset, .unset, .unset] [] rfl ?_
      exact r122 a0 a1 a2 a3 s0 _ da0 da1 da2 da3 ds0 ⟨by rw [c16_lat (and255 _)]; exact and255 _, fun z => absurd z (by omega)⟩
  have r84 : ∀ a0 a1 a2 a3 : Int32, Dr n 0 a0 → Dr n 1 a1 → Dr n 2 a2 → Dr n 3 a3 → Wp l Z EL1 mt_law room_1 h [] 0 0 84 #[.val (.long i0), .second, .val (.int i1), .val (.int i2), .val (.int i3), .val (.int (Int32.ofNat n)), .val (.int (Int32.ofNat m)), .val (.int a0), .val (.int a1), .val (.int a2), .val (.int a3), .unset, .unset, .unset, .unset, .unset, .unset, .unset, .unset, .unset, .unset] [] (fun v _ => v = some (.int 1)) := by
    intro a0 a1 a2 a3 da0 da1 da2 da3
    refine Wp.run ok_law 1 86 #[.val (.long i0), .second, .val (.int i1), .val (.int i2), .val (.int i3), .val (.int (Int32.ofNat n)), .val (.int (Int32.ofNat m)), .val (.int a0), .val (.int a1), .val (.int a2), .val (.int a3), .unset, .unset, .unset, .unset, .unset, .unset, .unset, .unset, .unset, .unset] [(.int (Int32.ofNat m))] rfl ?_
    refine Wp.if0 ok_law 98 rfl rfl (by decide) (by decide) (fun hq => ?_) (fun hq => ?_)
    · replace hq : ¬ (0 : Int32) < (Int32.ofNat m) := hq
      refine Wp.run ok_law 2 101 #[.val (.long i0), .second, .val (.int i1), .val (.int i2), .val (.int i3), .val (.int (Int32.ofNat n)), .val (.int (Int32.ofNat m)), .val (.int a0), .val (.int a1), .val (.int a2), .val (.int a3), .val (.int (0 : Int32)), .unset, .unset, .unset, .unset, .unset, .unset, .unset, .unset, .unset] [] rfl ?_
      exact r101 a0 a1 a2 a3 0 da0 da1 da2 da3 ⟨by decide, fun _ => rfl⟩
    · replace hq : (0 : Int32) < (Int32.ofNat m) := hq
      have hlt : 0 < m := (n_lt (i := 0) (by decide) (by omega)).mp hq
      refine Wp.run ok_law 6 101 #[.val (.long i0), .second, .val (.int i1), .val (.int i2), .val (.int i3), .val (.int (Int32.ofNat n)), .val (.int (Int32.ofNat m)), .val (.int a0), .val (.int a1), .val (.int a2), .val (.int a3), .val (.int (c16 (i2 &&& (255 : Int32)))), .unset, .unset, .unset, .unset, .unset, .unset, .unset, .unset, .unset] [] rfl ?_
      exact r101 a0 a1 a2 a3 _ da0 da1 da2 da3 ⟨by rw [c16_lat (and255 _)]; exact and255 _, fun z => absurd z (by omega)⟩
  have r67 : ∀ a0 a1 a2 : Int32, Dr n 0 a0 → Dr n 1 a1 → Dr n 2 a2 → Wp l Z EL1 mt_law room_1 h [] 0 0 67 #[.val (.long i0), .second, .val (.int i1), .val (.int i2), .val (.int i3), .val (.int (Int32.ofNat n)), .val (.int (Int32.ofNat m)), .val (.int a0), .val (.int a1), .val (.int a2), .unset, .unset, .unset, .unset, .unset, .unset, .unset, .unset, .unset, .unset, .unset] [] (fun v _ => v = some (.int 1)) := by
    intro a0 a1 a2 da0 da1 da2
    refine Wp.run ok_law 2 70 #[.val (.long i0), .second, .val (.int i1), .val (.int i2), .val (.int i3), .val (.int (Int32.ofNat n)), .val (.int (Int32.ofNat m)), .val (.int a0), .val (.int a1), .val (.int a2), .unset, .unset, .unset, .unset, .unset, .unset, .unset, .unset, .unset, .unset, .unset] [(.int (3 : Int32)), (.int (Int32.ofNat n))] rfl ?_
    refine Wp.icmp ok_law 81 rfl rfl (by decide) (by decide) (fun hq => ?_) (fun hq => ?_)
    · replace hq : ¬ (3 : Int32) < (Int32.ofNat n) := hq
      refine Wp.run ok_law 2 84 #[.val (.long i0), .second, .val (.int i1), .val (.int i2), .val (.int i3), .val (.int (Int32.ofNat n)), .val (.int (Int32.ofNat m)), .val (.int a0), .val (.int a1), .val (.int a2), .val (.int (0 : Int32)), .unset, .unset, .unset, .unset, .unset, .unset, .unset, .unset, .unset, .unset] [] rfl ?_
      exact r84 a0 a1 a2 0 da0 da1 da2 ⟨by decide, fun _ => rfl⟩
    · replace hq : (3 : Int32) < (Int32.ofNat n) := hq
      have hlt : 3 < n := (n_lt (i := 3) (by decide) (by omega)).mp hq
      refine Wp.run ok_law 2 75 #[.val (.long i0), .second, .val (.int i1), .val (.int i2), .val (.int i3), .val (.int (Int32.ofNat n)), .val (.int (Int32.ofNat m)), .val (.int a0), .val (.int a1), .val (.int a2), .unset, .unset, .unset, .unset, .unset, .unset, .unset, .unset, .unset, .unset, .unset] [(.int (3 : Int32)), (.long i0)] rfl ?_
      refine Wp.callS ok_law (argsL := [(.long i0), (.int (3 : Int32))]) (rest := []) (ct_drw G (x := i0) (i := 3) h) G.2.1 (G.1 _ (List.mem_of_getElem? (i := 1) rfl)) (G.1 _ (List.mem_of_getElem? (i := 2) rfl)) (G.1 _ (List.mem_of_getElem? (i := 3) rfl)) (G.1 _ (List.mem_of_getElem? (i := 4) rfl)) rfl rfl (by decide) pd_drw rfl rfl (Nat.le_of_ble_eq_true rfl) (Nat.le_of_ble_eq_true rfl) (Nat.le_of_ble_eq_true rfl) (Nat.le_of_ble_eq_true rfl) all0 ?_
      rintro _ _ ⟨c, rfl, rfl, lc⟩ -
      refine Wp.run ok_law 2 84 #[.val (.long i0), .second, .val (.int i1), .val (.int i2), .val (.int i3), .val (.int (Int32.ofNat n)), .val (.int (Int32.ofNat m)), .val (.int a0), .val (.int a1), .val (.int a2), .val (.int c), .unset, .unset, .unset, .unset, .unset, .unset, .unset, .unset, .unset, .unset] [] rfl ?_
      exact r84 a0 a1 a2 c da0 da1 da2 ⟨lc, fun z => absurd z (by omega)⟩
  have r50 : ∀ a0 a1 : Int32, Dr n 0 a0 → Dr n 1 a1 → Wp l Z EL1 mt_law room_1 h [] 0 0 50 #[.val (.long i0), .second, .val (.int i1), .val (.int i2), .val (.int i3), .val (.int (Int32.ofNat n)), .val (.int (Int32.ofNat m)), .val (.int a0), .val (.int a1), .unset, .unset, .unset, .unset, .unset, .unset, .unset, .unset, .unset, .unset, .unset, .unset] [] (fun v _ => v = some (.int 1)) := by
    intro a0 a1 da0 da1
    refine Wp.run ok_law 2 53 #[.val (.long i0), .second, .val (.int i1), .val (.int i2), .val (.int i3), .val (.int (Int32.ofNat n)), .val (.int (Int32.ofNat m)), .val (.int a0), .val (.int a1), .unset, .unset, .unset, .unset, .unset, .unset, .unset, .unset, .unset, .unset, .unset, .unset] [(.int (2 : Int32)), (.int (Int32.ofNat n))] rfl ?_
    refine Wp.icmp ok_law 64 rfl rfl (by decide) (by decide) (fun hq => ?_) (fun hq => ?_)
    · replace hq : ¬ (2 : Int32) < (Int32.ofNat n) := hq
      refine Wp.run ok_law 2 67 #[.val (.long i0), .second, .val (.int i1), .val (.int i2), .val (.int i3), .val (.int (Int32.ofNat n)), .val (.int (Int32.ofNat m)), .val (.int a0), .val (.int a1), .val (.int (0 : Int32)), .unset, .unset, .unset, .unset, .unset, .unset, .unset, .unset, .unset, .unset, .unset] [] rfl ?_
      exact r67 a0 a1 0 da0 da1 ⟨by decide, fun _ => rfl⟩
    · replace hq : (2 : Int32) < (Int32.ofNat n) := hq
      have hlt : 2 < n := (n_lt (i := 2) (by decide) (by omega)).mp hq
      refine Wp.run ok_law 2 58 #[.val (.long i0), .second, .val (.int i1), .val (.int i2), .val (.int i3), .val (.int (Int32.ofNat n)), .val (.int (Int32.ofNat m)), .val (.int a0), .val (.int a1), .unset, .unset, .unset, .unset, .unset, .unset, .unset, .unset, .unset, .unset, .unset, .unset] [(.int (2 : Int32)), (.long i0)] rfl ?_
      refine Wp.callS ok_law (argsL := [(.long i0), (.int (2 : Int32))]) (rest := []) (ct_drw G (x := i0) (i := 2) h) G.2.1 (G.1 _ (List.mem_of_getElem? (i := 1) rfl)) (G.1 _ (List.mem_of_getElem? (i := 2) rfl)) (G.1 _ (List.mem_of_getElem? (i := 3) rfl)) (G.1 _ (List.mem_of_getElem? (i := 4) rfl)) rfl rfl (by decide) pd_drw rfl rfl (Nat.le_of_ble_eq_true rfl) (Nat.le_of_ble_eq_true rfl) (Nat.le_of_ble_eq_true rfl) (Nat.le_of_ble_eq_true rfl) all0 ?_
      rintro _ _ ⟨c, rfl, rfl, lc⟩ -
      refine Wp.run ok_law 2 67 #[.val (.long i0), .second, .val (.int i1), .val (.int i2), .val (.int i3), .val (.int (Int32.ofNat n)), .val (.int (Int32.ofNat m)), .val (.int a0), .val (.int a1), .val (.int c), .unset, .unset, .unset, .unset, .unset, .unset, .unset, .unset, .unset, .unset, .unset] [] rfl ?_
      exact r67 a0 a1 c da0 da1 ⟨lc, fun z => absurd z (by omega)⟩
  have r33 : ∀ a0 : Int32, Dr n 0 a0 → Wp l Z EL1 mt_law room_1 h [] 0 0 33 #[.val (.long i0), .second, .val (.int i1), .val (.int i2), .val (.int i3), .val (.int (Int32.ofNat n)), .val (.int (Int32.ofNat m)), .val (.int a0), .unset, .unset, .unset, .unset, .unset, .unset, .unset, .unset, .unset, .unset, .unset, .unset, .unset] [] (fun v _ => v = some (.int 1)) := by
    intro a0 da0
    refine Wp.run ok_law 2 36 #[.val (.long i0), .second, .val (.int i1), .val (.int i2), .val (.int i3), .val (.int (Int32.ofNat n)), .val (.int (Int32.ofNat m)), .val (.int a0), .unset, .unset, .unset, .unset, .unset, .unset, .unset, .unset, .unset, .unset, .unset, .unset, .unset] [(.int (1 : Int32)), (.int (Int32.ofNat n))] rfl ?_
    refine Wp.icmp ok_law 47 rfl rfl (by decide) (by decide) (fun hq => ?_) (fun hq => ?_)
    · replace hq : ¬ (1 : Int32) < (Int32.ofNat n) := hq
      refine Wp.run ok_law 2 50 #[.val (.long i0), .second, .val (.int i1), .val (.int i2), .val (.int i3), .val (.int (Int32.ofNat n)), .val (.int (Int32.ofNat m)), .val (.int a0), .val (.int (0 : Int32)), .unset, .unset, .unset, .unset, .unset, .unset, .unset, .unset, .unset, .unset, .unset, .unset] [] rfl ?_
      exact r50 a0 0 da0 ⟨by decide, fun _ => rfl⟩
    · replace hq : (1 : Int32) < (Int32.ofNat n) := hq
      have hlt : 1 < n := (n_lt (i := 1) (by decide) (by omega)).mp hq
      refine Wp.run ok_law 2 41 #[.val (.long i0), .second, .val (.int i1), .val (.int i2), .val (.int i3), .val (.int (Int32.ofNat n)), .val (.int (Int32.ofNat m)), .val (.int a0), .unset, .unset, .unset, .unset, .unset, .unset, .unset, .unset, .unset, .unset, .unset, .unset, .unset] [(.int (1 : Int32)), (.long i0)] rfl ?_
      refine Wp.callS ok_law (argsL := [(.long i0), (.int (1 : Int32))]) (rest := []) (ct_drw G (x := i0) (i := 1) h) G.2.1 (G.1 _ (List.mem_of_getElem? (i := 1) rfl)) (G.1 _ (List.mem_of_getElem? (i := 2) rfl)) (G.1 _ (List.mem_of_getElem? (i := 3) rfl)) (G.1 _ (List.mem_of_getElem? (i := 4) rfl)) rfl rfl (by decide) pd_drw rfl rfl (Nat.le_of_ble_eq_true rfl) (Nat.le_of_ble_eq_true rfl) (Nat.le_of_ble_eq_true rfl) (Nat.le_of_ble_eq_true rfl) all0 ?_
      rintro _ _ ⟨c, rfl, rfl, lc⟩ -
      refine Wp.run ok_law 2 50 #[.val (.long i0), .second, .val (.int i1), .val (.int i2), .val (.int i3), .val (.int (Int32.ofNat n)), .val (.int (Int32.ofNat m)), .val (.int a0), .val (.int c), .unset, .unset, .unset, .unset, .unset, .unset, .unset, .unset, .unset, .unset, .unset, .unset] [] rfl ?_
      exact r50 a0 c da0 ⟨lc, fun z => absurd z (by omega)⟩
  refine Wp.if0 ok_law 30 rfl rfl (by decide) (by decide) (fun hq => ?_) (fun hq => ?_)
  · replace hq : ¬ (0 : Int32) < (Int32.ofNat n) := hq
    refine Wp.run ok_law 2 33 #[.val (.long i0), .second, .val (.int i1), .val (.int i2), .val (.int i3), .val (.int (Int32.ofNat n)), .val (.int (Int32.ofNat m)), .val (.int (0 : Int32)), .unset, .unset, .unset, .unset, .unset, .unset, .unset, .unset, .unset, .unset, .unset, .unset, .unset] [] rfl ?_
    exact r33  0  ⟨by decide, fun _ => rfl⟩
  · replace hq : (0 : Int32) < (Int32.ofNat n) := hq
    have hlt : 0 < n := (n_lt (i := 0) (by decide) (by omega)).mp hq
    refine Wp.run ok_law 2 24 #[.val (.long i0), .second, .val (.int i1), .val (.int i2), .val (.int i3), .val (.int (Int32.ofNat n)), .val (.int (Int32.ofNat m)), .unset, .unset, .unset, .unset, .unset, .unset, .unset, .unset, .unset, .unset, .unset, .unset, .unset, .unset] [(.int (0 : Int32)), (.long i0)] rfl ?_
    refine Wp.callS ok_law (argsL := [(.long i0), (.int (0 : Int32))]) (rest := []) (ct_drw G (x := i0) (i := 0) h) G.2.1 (G.1 _ (List.mem_of_getElem? (i := 1) rfl)) (G.1 _ (List.mem_of_getElem? (i := 2) rfl)) (G.1 _ (List.mem_of_getElem? (i := 3) rfl)) (G.1 _ (List.mem_of_getElem? (i := 4) rfl)) rfl rfl (by decide) pd_drw rfl rfl (Nat.le_of_ble_eq_true rfl) (Nat.le_of_ble_eq_true rfl) (Nat.le_of_ble_eq_true rfl) (Nat.le_of_ble_eq_true rfl) all0 ?_
    rintro _ _ ⟨c, rfl, rfl, lc⟩ -
    refine Wp.run ok_law 2 33 #[.val (.long i0), .second, .val (.int i1), .val (.int i2), .val (.int i3), .val (.int (Int32.ofNat n)), .val (.int (Int32.ofNat m)), .val (.int c), .unset, .unset, .unset, .unset, .unset, .unset, .unset, .unset, .unset, .unset, .unset, .unset, .unset] [] rfl ?_
    exact r33  c  ⟨lc, fun z => absurd z (by omega)⟩

set_option maxRecDepth 65536 in
set_option maxHeartbeats 4000000 in
theorem comes_1 {Post : Tables → Env → Array Value → State → Outcome → State → Prop} (hpost : ∀ tb e args s v u, (limb_1_1.after args s (.returned v) u = true ∧ limb_1_2.after args s (.returned v) u = true ∧ True) → ReturnedEndW s (.returned v) u (Jvm.fieldLocs frame_1_writes args s ++ Jvm.arrayLocs frame_1_arrays args s ++ Jvm.staticLocs frame_1_statics s) 48 3328 → Post tb e args s (.returned v) u) :
    ArmFor flags0 classFile x code maxLocals ret World_1 tables_1 room_1 Calls_1 rest_1 Pre_1 Post := by
  intro l hfl _ _ p e ha hc hk s m args below hf hA hF happ hP
  obtain ⟨hcalls, hrest, hpre⟩ := hP
  obtain ⟨-, -, -, hnamed, -, -, -, hat⟩ := (Spec.applies_iff hf).mp happ
  obtain ⟨hg, hn⟩ := and_e (Cond.before_iff.mp (show (Jvm.Cond.and given_1 narrow_1).before args s = true from hpre))
  obtain ⟨hcount, g0⟩ := and_e hg
  obtain ⟨k0, g1⟩ := and_e g0
  obtain ⟨k1, g2⟩ := and_e g1
  obtain ⟨k2, g3⟩ := and_e g2
  have k3 := g3
  obtain ⟨w0, w1, w2, w3, rfl⟩ : ∃ w0 w1 w2 w3 : Value, args = #[w0, w1, w2, w3] := by
    have hs : args.size = 4 := by simpa [Cond.value, given_1] using hcount
    obtain ⟨L⟩ := args
    match L, hs with
    | [w0, w1, w2, w3], _ => exact ⟨w0, w1, w2, w3, rfl⟩
  have hw := fun d (hd : d ∈ tables_1) => atoms_spec (ws := Jvm.Cond.code x code maxLocals ret :: tables_1) hat d (List.mem_cons_of_mem _ hd)
  obtain ⟨hsets, hown0⟩ := atoms_of _ (rest_1_c_eq ▸ (show rest_1_c.before _ s = true from hrest))
  have hfit : Fit s := fun {y c} hc i hi => by
    obtain ⟨ha, rfl⟩ := Array.getElem?_eq_some_iff.mp hc
    have q := List.all_eq_true.mp ((Array.all_eq_true_iff_forall_mem.mp hF) _ (Array.getElem_mem ha)) i (List.mem_range.mpr hi)
    simpa [Array.getElem?_eq_getElem hi] using q
  obtain ⟨i0, e0⟩ := isL_v k0
  obtain rfl : w0 = (.long i0) := Option.some.inj e0
  obtain ⟨i1, e1⟩ := is_v k1
  obtain rfl : w1 = (.int i1) := Option.some.inj e1
  obtain ⟨i2, e2⟩ := is_v k2
  obtain rfl : w2 = (.int i2) := Option.some.inj e2
  obtain ⟨i3, e3⟩ := is_v k3
  obtain rfl : w3 = (.int i3) := Option.some.inj e3
  have n5 := not_v (Cond.before_iff.mp (hsets _ (List.mem_of_getElem? (i := 2) rfl)))
  obtain ⟨vC, eC⟩ := is_v (Cond.before_iff.mp (hsets _ (List.mem_of_getElem? (i := 1) rfl)))
  have SC : Sta s s.heap "java/lang/String" "COMPACT_STRINGS" "Z" (.int vC) := Sta.start eC (Or.inl (hsets _ (List.mem_of_getElem? (i := 0) rfl)))
  obtain ⟨vF, eF, rF⟩ := isR_v (Cond.before_iff.mp (hsets _ (List.mem_of_getElem? (i := 8) rfl)))
  have SF : Sta s s.heap "jdk/internal/util/Preconditions" "SIOOBE_FORMATTER" "Ljava/util/function/BiFunction;" vF := Sta.start eF (Or.inl (hsets _ (List.mem_of_getElem? (i := 7) rfl)))
  have nC : ¬ (vC = (0 : Int32)) := gotF (Cond.eq_ints eC (Term.int_eval (0))) n5
  have hEL : EW s #[.long i0, .int i1, .int i2, .int i3] EL1 := (EW.cons (hw _ (List.mem_of_getElem? (i := 121) rfl)) (by decide) (EW.cons (hw _ (List.mem_of_getElem? (i := 160) rfl)) (by decide) (EW.cons (hw _ (List.mem_of_getElem? (i := 39) rfl)) (by decide) EW.nil)))
  have G : Gd s #[.long i0, .int i1, .int i2, .int i3] := ⟨hw, hEL, ⟨vC, SC, nC⟩, ⟨vF, SF, rF⟩, trivial⟩
  have hCH : CHv s EL1 s.vm s.heap := CHv.start hEL hcalls.1 (hsets _ (List.mem_of_getElem? (i := 2) rfl)) (hw _ (List.mem_of_getElem? (i := 28) rfl)) (hw _ (List.mem_of_getElem? (i := 10) rfl))
  obtain ⟨n, o, h1, h2, h3, _, L, Wo, rfl, rfl, -, N, -, -, hWH, hq⟩ := ct_law G i0 i1 i2 i3 s.heap p e ha hc hk s m _ below hf ((Spec.applies_iff_loose hf).mp happ).1 ⟨rfl, State.Warmed39.refl s, rfl, hCH, Own.nil, ext_refl _⟩ trivial
  refine ⟨n, _, h1, h2, h3, hpost _ _ _ _ _ _ ⟨Cond.after_iff.mpr rfl, Cond.after_iff.mpr (eq_i res_at (Term.int_eval (1)) rfl), trivial⟩ ⟨hq.1, hq.2.1, hq.2.2.1, (hq.2.2.2.sift fun y hy => Or.inr (N y hy)).mono (by decide) (by decide)⟩⟩
theorem main_1_1 : Claimed_1_1 := comes_1 fun _ _ _ _ _ _ h hF => ⟨h.1, hF⟩
theorem main_1_2 : Claimed_1_2 := comes_1 fun _ _ _ _ _ _ h hF => ⟨h.2.1, hF⟩
end Jvm.Pilot.@@N@@
namespace Jvm.Pilot.@@N@@
open Jvm Jvm.ClassFile Sem Op Lib Jvm.Free Jvm.Stand Jvm.Pilot.@@N@@.Jvm.D
/-! MADE BY PROGRAM (witnessworld.py) out of the Statement's table words and the real class files: 26 classes; the members and pool entries that the words name. The judged class is class 1, her method 1. -/
namespace start1
open Jvm.ClassFile
def u (s : String) : CpInfo := .utf8 (stringToUtf16 s)
/-- a pool by its gaps: so many unusable entries, then the entry; so many at the end -/
def gap : Nat → List CpInfo → List CpInfo
  | 0, r => r
  | n + 1, r => .unusable :: gap n r
def poolList (es : List (Nat × CpInfo)) (last : Nat) : List CpInfo := es.foldr (fun e r => gap e.1 (e.2 :: r)) (gap last [])
def pool (es : List (Nat × CpInfo)) (last : Nat) : Array CpInfo := ⟨poolList es last⟩
def fileOf (pool : Array CpInfo) (this : Nat) (attrs : Array Attribute := #[]) (ms : Array MethodInfo := #[]) (fl : Nat := 33) (sup : Nat := 0) (ifs : Array Nat := #[]) (fds : Array FieldInfo := #[]) : ClassFile where
  minorVersion := 0
  majorVersion := 65
  constantPool := pool
  accessFlags := fl
  thisClass := this
  superClass := sup
  interfaces := ifs
  fields := fds
  methods := ms
  attributes := attrs
def plain (name : String) (sup : Option ClassId) : Class where
  name := name
  kind := .ordinary
  loader := none
  accessFlags := 33
  super := sup
  interfaces := #[]
  cf := none
  fields := #[]
  methods := #[]
  instanceTypes := #[]
  staticTypes := #[]
  resolved := #[]
  callSites := []
  init := .initialized
  statics := none
  mirror := none

def pool0 : Array CpInfo := pool [(5, u "<init>"), (0, u "()V"), (1, .class_ 10), (1, u "java/lang/Object")] 113

def k0c0 : Code := { maxStack := 0, maxLocals := 1, code := object_method_1_code, exceptionTable := #[], attributes := #[] }
def k0m0 : Method := { name := "<init>", desc := "()V", sig := { parameters := [], returnType := none }, accessFlags := 1, code := some k0c0 }
/-- java/lang/Object -/
def k0 : Class := { plain "java/lang/Object" none with
  accessFlags := 33
  interfaces := #[]
  cf := some (fileOf pool0 8 #[] #[{ accessFlags := 1, nameIndex := 5, descriptorIndex := 6, attributes := #[] }] 33 0 #[] #[])
  fields := #[]
  methods := #[k0m0]
  instanceTypes := #[]
  staticTypes := #[]
  resolved := Array.replicate 124 none
  statics := none }

def pool1 : Array CpInfo := pool [(2, .class_ 4), (1, u "java/lang/Object"), (0, u "<init>"), (0, u "()V"), (0, .integer 2147483647), (0, .methodref 9 10), (0, .class_ 11), (0, .nameAndType 12 13), (0, u "holdfast/HashSlotBesidePinLaw"), (0, u "draw"), (0, u "(JI)C"), (0, .methodref 9 15), (0, .nameAndType 16 17), (0, u "make"), (0, u "(ICCCC)Ljava/lang/String;"), (0, .methodref 19 20), (0, .class_ 21), (0, .nameAndType 22 23), (0, u "holdfast/HashSlot"), (0, u "beside"), (0, u "(Ljava/lang/String;Ljava/lang/String;)Ljava/lang/String;"), (0, .methodref 25 26), (0, .class_ 27), (0, .nameAndType 28 29), (0, u "java/lang/String"), (0, u "length"), (0, u "()I"), (0, .methodref 9 31), (0, .nameAndType 32 33), (0, u "at"), (0, u "(Ljava/lang/String;IIZI[C[C)Z"), (0, .long 1023), (1, .methodref 25 37), (0, .nameAndType 5 38), (0, u "([C)V"), (0, .methodref 25 40), (0, .nameAndType 41 42), (0, u "charAt"), (0, u "(I)C"), (0, .methodref 9 44), (0, .nameAndType 45 46), (0, u "expected"), (0, u "(IZI[C[C)C"), (2, u "law"), (0, u "(JIII)Z")] 5

def k1m0 : Method := { name := "<init>", desc := "()V", sig := { parameters := [], returnType := none }, accessFlags := 2, code := none }
def k1c1 : Code := { maxStack := 7, maxLocals := 21, code := code, exceptionTable := #[], attributes := #[] }
def k1m1 : Method := { name := "law", desc := "(JIII)Z", sig := { parameters := [.long, .int, .int, .int], returnType := some .boolean }, accessFlags := 9, code := some k1c1 }
def k1c2 : Code := { maxStack := 4, maxLocals := 5, code := method_3_code, exceptionTable := #[], attributes := #[] }
def k1m2 : Method := { name := "draw", desc := "(JI)C", sig := { parameters := [.long, .int], returnType := some .char }, accessFlags := 10, code := some k1c2 }
def k1c3 : Code := { maxStack := 6, maxLocals := 5, code := method_4_code, exceptionTable := #[], attributes := #[] }
def k1m3 : Method := { name := "make", desc := "(ICCCC)Ljava/lang/String;", sig := { parameters := [.int, .char, .char, .char, .char], returnType := some (.object "java/lang/String") }, accessFlags := 10, code := some k1c3 }
def k1c4 : Code := { maxStack := 6, maxLocals := 7, code := method_5_code, exceptionTable := #[], attributes := #[] }
def k1m4 : Method := { name := "at", desc := "(Ljava/lang/String;IIZI[C[C)Z", sig := { parameters := [(.object "java/lang/String"), .int, .int, .boolean, .int, (.array .char), (.array .char)], returnType := some .boolean }, accessFlags := 10, code := some k1c4 }
def k1c5 : Code := { maxStack := 3, maxLocals := 5, code := method_6_code, exceptionTable := #[], attributes := #[] }
def k1m5 : Method := { name := "expected", desc := "(IZI[C[C)C", sig := { parameters := [.int, .boolean, .int, (.array .char), (.array .char)], returnType := some .char }, accessFlags := 10, code := some k1c5 }
/-- holdfast/HashSlotBesidePinLaw -/
def k1 : Class := { plain "holdfast/HashSlotBesidePinLaw" (some 0) with
  accessFlags := 49
  interfaces := #[]
  cf := some (fileOf pool1 9 #[] #[{ accessFlags := 2, nameIndex := 5, descriptorIndex := 6, attributes := #[] }, { accessFlags := 9, nameIndex := 49, descriptorIndex := 50, attributes := #[] }, { accessFlags := 10, nameIndex := 12, descriptorIndex := 13, attributes := #[] }, { accessFlags := 10, nameIndex := 16, descriptorIndex := 17, attributes := #[] }, { accessFlags := 10, nameIndex := 32, descriptorIndex := 33, attributes := #[] }, { accessFlags := 10, nameIndex := 45, descriptorIndex := 46, attributes := #[] }] 49 2 #[] #[])
  fields := #[]
  methods := #[k1m0, k1m1, k1m2, k1m3, k1m4, k1m5]
  instanceTypes := #[]
  staticTypes := #[]
  resolved := Array.replicate 56 none
  statics := none }

def pool2 : Array CpInfo := pool [(1, .class_ 2), (0, u "java/io/Serializable"), (0, .class_ 4), (0, u "java/lang/Object")] 2

/-- java/io/Serializable -/
def k2 : Class := { plain "java/io/Serializable" (some 0) with
  accessFlags := 1537
  interfaces := #[]
  cf := some (fileOf pool2 1 #[] #[] 1537 3 #[] #[])
  fields := #[]
  methods := #[]
  instanceTypes := #[]
  staticTypes := #[]
  resolved := Array.replicate 7 none
  statics := none }

def pool3 : Array CpInfo := pool [(1, .class_ 2), (0, u "java/lang/Comparable"), (0, .class_ 4), (0, u "java/lang/Object")] 7

/-- java/lang/Comparable -/
def k3 : Class := { plain "java/lang/Comparable" (some 0) with
  accessFlags := 1537
  interfaces := #[]
  cf := some (fileOf pool3 1 #[] #[] 1537 3 #[] #[])
  fields := #[]
  methods := #[]
  instanceTypes := #[]
  staticTypes := #[]
  resolved := Array.replicate 12 none
  statics := none }

def pool4 : Array CpInfo := pool [(2, .class_ 4), (1, u "java/lang/CharSequence"), (42, .class_ 48), (0, u "java/lang/CharSequence$1CodePointIterator"), (10, .class_ 60), (0, u "java/lang/CharSequence$1CharIterator"), (5, .class_ 67), (0, u "java/lang/Object")] 63

/-- java/lang/CharSequence -/
def k4 : Class := { plain "java/lang/CharSequence" (some 0) with
  accessFlags := 1537
  interfaces := #[]
  cf := some (fileOf pool4 2 #[.nestMembers #[47, 59]] #[] 1537 66 #[] #[])
  fields := #[]
  methods := #[]
  instanceTypes := #[]
  staticTypes := #[]
  resolved := Array.replicate 131 none
  statics := none }

def pool5 : Array CpInfo := pool [(1, .class_ 2), (0, u "java/lang/constant/Constable"), (0, .class_ 4), (0, u "java/lang/Object")] 6

/-- java/lang/constant/Constable -/
def k5 : Class := { plain "java/lang/constant/Constable" (some 0) with
  accessFlags := 1537
  interfaces := #[]
  cf := some (fileOf pool5 1 #[] #[] 1537 3 #[] #[])
  fields := #[]
  methods := #[]
  instanceTypes := #[]
  staticTypes := #[]
  resolved := Array.replicate 11 none
  statics := none }

def pool6 : Array CpInfo := pool [(1, .class_ 2), (0, u "java/lang/constant/ConstantDesc"), (0, .class_ 4), (0, u "java/lang/Object")] 32

/-- java/lang/constant/ConstantDesc -/
def k6 : Class := { plain "java/lang/constant/ConstantDesc" (some 0) with
  accessFlags := 1537
  interfaces := #[]
  cf := some (fileOf pool6 1 #[] #[] 1537 3 #[] #[])
  fields := #[]
  methods := #[]
  instanceTypes := #[]
  staticTypes := #[]
  resolved := Array.replicate 37 none
  statics := none }

def pool7 : Array CpInfo := pool [(1, .methodref 2 3), (0, .class_ 4), (0, .nameAndType 5 6), (0, u "java/lang/Object"), (0, u "<init>"), (0, u "()V"), (0, .string 8), (0, u ""), (0, .fieldref 10 11), (0, .class_ 12), (0, .nameAndType 13 14), (0, u "java/lang/String"), (0, u "value"), (0, u "[B"), (0, .fieldref 10 16), (0, .nameAndType 17 18), (0, u "coder"), (0, u "B"), (2, u "hash"), (0, u "I"), (2, u "hashIsZero"), (0, u "Z"), (0, .methodref 10 28), (0, .nameAndType 5 29), (0, u "([CIILjava/lang/Void;)V"), (8, .fieldref 10 39), (0, .nameAndType 40 26), (0, u "COMPACT_STRINGS"), (1, .class_ 44), (1, u "java/lang/StringUTF16"), (0, u "compress"), (1, .methodref 42 48), (0, .nameAndType 49 50), (0, u "coderFromArrayLen"), (0, u "([BI)B"), (3, .methodref 55 56), (0, .class_ 57), (0, .nameAndType 58 59), (0, u "java/util/Arrays"), (0, u "copyOfRange"), (0, u "([BII)[B"), (47, .class_ 109), (1, u "java/lang/StringLatin1"), (32, u "()Z"), (34, .methodref 42 178), (0, .nameAndType 45 179), (0, u "([CII)[B"), (13, .class_ 195), (1, u "java/lang/System"), (15, u "([BB)V"), (0, .methodref 193 213), (0, .nameAndType 214 215), (0, u "arraycopy"), (0, u "(Ljava/lang/Object;ILjava/lang/Object;II)V"), (118, u "()I"), (0, .methodref 10 336), (0, .nameAndType 17 337), (0, u "()B"), (2, u "()[B"), (22, u "([BI)C"), (27, u "(II)V"), (35, u "(I)C"), (61, .methodref 10 490), (0, .nameAndType 5 491), (0, u "(Ljava/lang/AbstractStringBuilder;Ljava/lang/Void;)V"), (0, .methodref 10 493), (0, .nameAndType 494 142), (0, u "isLatin1"), (0, .methodref 107 496), (0, .nameAndType 497 363), (0, u "charAt"), (3, u "checkIndex"), (3, .methodref 10 506), (0, .nameAndType 507 334), (0, u "length"), (5, u "checkFromToIndex"), (7, .methodref 10 522), (0, .nameAndType 523 524), (0, u "checkBoundsBeginEnd"), (0, u "(III)V"), (7, u "getBytes"), (16, .methodref 550 506), (0, .class_ 551), (0, u "java/lang/AbstractStringBuilder"), (0, .methodref 550 553), (0, .nameAndType 554 340), (0, u "getValue"), (20, .class_ 576), (0, u "java/lang/CharSequence"), (22, u "CASE_INSENSITIVE_ORDER"), (0, u "Ljava/util/Comparator;"), (32, .methodref 10 634), (0, .nameAndType 635 636), (0, u "indexOf"), (0, u "(II)I"), (0, .methodref 107 638), (0, .nameAndType 635 639), (0, u "([BIII)I"), (43, u "substring"), (0, u "(II)Ljava/lang/String;"), (0, .methodref 107 686), (0, .nameAndType 687 688), (0, u "newString"), (0, u "([BII)Ljava/lang/String;"), (3, u "isEmpty"), (72, u "(I)I"), (55, u "([BIB)V"), (188, u "([C)V"), (36, .methodref 550 493), (5, .fieldref 1054 1055), (0, .class_ 1056), (0, .nameAndType 1057 1058), (0, u "jdk/internal/util/Preconditions"), (0, u "SIOOBE_FORMATTER"), (0, u "Ljava/util/function/BiFunction;"), (0, .methodref 1054 1060), (0, .nameAndType 501 1061), (0, u "(IILjava/util/function/BiFunction;)I"), (0, .methodref 1054 1063), (0, .nameAndType 513 1064), (0, u "(IIILjava/util/function/BiFunction;)I"), (36, u "serialPersistentFields"), (0, u "[Ljava/io/ObjectStreamField;"), (0, .class_ 1104), (0, u "java/lang/String$CaseInsensitiveComparator"), (1, .class_ 1107), (0, u "java/io/Serializable"), (0, .class_ 1109), (0, u "java/lang/Comparable"), (0, .class_ 1111), (0, u "java/lang/constant/Constable"), (0, .class_ 1113), (0, u "java/lang/constant/ConstantDesc"), (2, u "serialVersionUID"), (0, u "J"), (3, u "REPL"), (0, u "C"), (2, u "LATIN1"), (1, u "UTF16"), (105, u "(Ljava/lang/StringBuilder;)V")] 217

def k7m0 : Method := { name := "<init>", desc := "()V", sig := { parameters := [], returnType := none }, accessFlags := 1, code := none }
def k7c1 : Code := { maxStack := 5, maxLocals := 2, code := jdk_42_method_3_code, exceptionTable := #[], attributes := #[] }
def k7m1 : Method := { name := "<init>", desc := "([C)V", sig := { parameters := [(.array .char)], returnType := none }, accessFlags := 1, code := some k7c1 }
def k7c2 : Code := { maxStack := 3, maxLocals := 2, code := jdk_42_method_53_code, exceptionTable := #[], attributes := #[] }
def k7m2 : Method := { name := "<init>", desc := "(Ljava/lang/StringBuilder;)V", sig := { parameters := [(.object "java/lang/StringBuilder")], returnType := none }, accessFlags := 1, code := some k7c2 }
def k7c3 : Code := { maxStack := 2, maxLocals := 1, code := jdk_42_method_54_code, exceptionTable := #[], attributes := #[] }
def k7m3 : Method := { name := "length", desc := "()I", sig := { parameters := [], returnType := some .int }, accessFlags := 1, code := some k7c3 }
def k7c4 : Code := { maxStack := 1, maxLocals := 1, code := jdk_42_method_55_code, exceptionTable := #[], attributes := #[] }
def k7m4 : Method := { name := "isEmpty", desc := "()Z", sig := { parameters := [], returnType := some .boolean }, accessFlags := 1, code := some k7c4 }
def k7c5 : Code := { maxStack := 2, maxLocals := 2, code := jdk_42_method_56_code, exceptionTable := #[], attributes := #[] }
def k7m5 : Method := { name := "charAt", desc := "(I)C", sig := { parameters := [.int], returnType := some .char }, accessFlags := 1, code := some k7c5 }
def k7c6 : Code := { maxStack := 3, maxLocals := 2, code := jdk_42_method_79_code, exceptionTable := #[], attributes := #[] }
def k7m6 : Method := { name := "indexOf", desc := "(I)I", sig := { parameters := [.int], returnType := some .int }, accessFlags := 1, code := some k7c6 }
def k7c7 : Code := { maxStack := 4, maxLocals := 3, code := jdk_42_method_80_code, exceptionTable := #[], attributes := #[] }
def k7m7 : Method := { name := "indexOf", desc := "(II)I", sig := { parameters := [.int, .int], returnType := some .int }, accessFlags := 1, code := some k7c7 }
def k7c8 : Code := { maxStack := 3, maxLocals := 5, code := jdk_42_method_92_code, exceptionTable := #[], attributes := #[] }
def k7m8 : Method := { name := "substring", desc := "(II)Ljava/lang/String;", sig := { parameters := [.int, .int], returnType := some (.object "java/lang/String") }, accessFlags := 1, code := some k7c8 }
def k7c9 : Code := { maxStack := 5, maxLocals := 4, code := jdk_42_method_147_code, exceptionTable := #[], attributes := #[] }
def k7m9 : Method := { name := "getBytes", desc := "([BIB)V", sig := { parameters := [(.array .byte), .int, .byte], returnType := none }, accessFlags := 0, code := some k7c9 }
def k7c10 : Code := { maxStack := 4, maxLocals := 6, code := jdk_42_method_149_code, exceptionTable := #[], attributes := #[] }
def k7m10 : Method := { name := "<init>", desc := "([CIILjava/lang/Void;)V", sig := { parameters := [(.array .char), .int, .int, (.object "java/lang/Void")], returnType := none }, accessFlags := 2, code := some k7c10 }
def k7c11 : Code := { maxStack := 5, maxLocals := 5, code := jdk_42_method_150_code, exceptionTable := #[], attributes := #[] }
def k7m11 : Method := { name := "<init>", desc := "(Ljava/lang/AbstractStringBuilder;Ljava/lang/Void;)V", sig := { parameters := [(.object "java/lang/AbstractStringBuilder"), (.object "java/lang/Void")], returnType := none }, accessFlags := 0, code := some k7c11 }
def k7c12 : Code := { maxStack := 2, maxLocals := 3, code := jdk_42_method_151_code, exceptionTable := #[], attributes := #[] }
def k7m12 : Method := { name := "<init>", desc := "([BB)V", sig := { parameters := [(.array .byte), .byte], returnType := none }, accessFlags := 0, code := some k7c12 }
def k7c13 : Code := { maxStack := 1, maxLocals := 1, code := jdk_42_method_152_code, exceptionTable := #[], attributes := #[] }
def k7m13 : Method := { name := "coder", desc := "()B", sig := { parameters := [], returnType := some .byte }, accessFlags := 0, code := some k7c13 }
def k7c14 : Code := { maxStack := 1, maxLocals := 1, code := jdk_42_method_154_code, exceptionTable := #[], attributes := #[] }
def k7m14 : Method := { name := "isLatin1", desc := "()Z", sig := { parameters := [], returnType := some .boolean }, accessFlags := 0, code := some k7c14 }
def k7c15 : Code := { maxStack := 3, maxLocals := 2, code := jdk_42_method_155_code, exceptionTable := #[], attributes := #[] }
def k7m15 : Method := { name := "checkIndex", desc := "(II)V", sig := { parameters := [.int, .int], returnType := none }, accessFlags := 8, code := some k7c15 }
def k7c16 : Code := { maxStack := 4, maxLocals := 3, code := jdk_42_method_158_code, exceptionTable := #[], attributes := #[] }
def k7m16 : Method := { name := "checkBoundsBeginEnd", desc := "(III)V", sig := { parameters := [.int, .int, .int], returnType := none }, accessFlags := 8, code := some k7c16 }
/-- java/lang/String -/
def k7 : Class := { plain "java/lang/String" (some 0) with
  accessFlags := 49
  interfaces := #[2, 3, 4, 5, 6]
  cf := some (fileOf pool7 10 #[.nestMembers #[1103]] #[{ accessFlags := 1, nameIndex := 5, descriptorIndex := 6, attributes := #[] }, { accessFlags := 1, nameIndex := 5, descriptorIndex := 1010, attributes := #[] }, { accessFlags := 1, nameIndex := 5, descriptorIndex := 1233, attributes := #[] }, { accessFlags := 1, nameIndex := 507, descriptorIndex := 334, attributes := #[] }, { accessFlags := 1, nameIndex := 692, descriptorIndex := 142, attributes := #[] }, { accessFlags := 1, nameIndex := 497, descriptorIndex := 427, attributes := #[] }, { accessFlags := 1, nameIndex := 635, descriptorIndex := 765, attributes := #[] }, { accessFlags := 1, nameIndex := 635, descriptorIndex := 636, attributes := #[] }, { accessFlags := 1, nameIndex := 683, descriptorIndex := 684, attributes := #[] }, { accessFlags := 0, nameIndex := 532, descriptorIndex := 821, attributes := #[] }, { accessFlags := 2, nameIndex := 5, descriptorIndex := 29, attributes := #[] }, { accessFlags := 0, nameIndex := 5, descriptorIndex := 491, attributes := #[] }, { accessFlags := 0, nameIndex := 5, descriptorIndex := 211, attributes := #[] }, { accessFlags := 0, nameIndex := 17, descriptorIndex := 337, attributes := #[] }, { accessFlags := 0, nameIndex := 494, descriptorIndex := 142, attributes := #[] }, { accessFlags := 8, nameIndex := 501, descriptorIndex := 391, attributes := #[] }, { accessFlags := 8, nameIndex := 523, descriptorIndex := 524, attributes := #[] }] 49 2 #[1106, 1108, 575, 1110, 1112] #[{ accessFlags := 18, nameIndex := 13, descriptorIndex := 14, attributes := #[] }, { accessFlags := 18, nameIndex := 17, descriptorIndex := 18, attributes := #[] }, { accessFlags := 2, nameIndex := 21, descriptorIndex := 22, attributes := #[] }, { accessFlags := 2, nameIndex := 25, descriptorIndex := 26, attributes := #[] }, { accessFlags := 26, nameIndex := 1116, descriptorIndex := 1117, attributes := #[] }, { accessFlags := 24, nameIndex := 40, descriptorIndex := 26, attributes := #[] }, { accessFlags := 26, nameIndex := 1101, descriptorIndex := 1102, attributes := #[] }, { accessFlags := 26, nameIndex := 1121, descriptorIndex := 1122, attributes := #[] }, { accessFlags := 25, nameIndex := 599, descriptorIndex := 600, attributes := #[] }, { accessFlags := 24, nameIndex := 1125, descriptorIndex := 18, attributes := #[] }, { accessFlags := 24, nameIndex := 1127, descriptorIndex := 18, attributes := #[] }])
  fields := #[{ name := "value", type := (.array .byte), accessFlags := 18, slot := 0, constantValue := 0 }, { name := "coder", type := .byte, accessFlags := 18, slot := 1, constantValue := 0 }, { name := "hash", type := .int, accessFlags := 2, slot := 2, constantValue := 0 }, { name := "hashIsZero", type := .boolean, accessFlags := 2, slot := 3, constantValue := 0 }, { name := "serialVersionUID", type := .long, accessFlags := 26, slot := 0, constantValue := 0 }, { name := "COMPACT_STRINGS", type := .boolean, accessFlags := 24, slot := 1, constantValue := 0 }, { name := "serialPersistentFields", type := (.array (.object "java/io/ObjectStreamField")), accessFlags := 26, slot := 2, constantValue := 0 }, { name := "REPL", type := .char, accessFlags := 26, slot := 3, constantValue := 0 }, { name := "CASE_INSENSITIVE_ORDER", type := (.object "java/util/Comparator"), accessFlags := 25, slot := 4, constantValue := 0 }, { name := "LATIN1", type := .byte, accessFlags := 24, slot := 5, constantValue := 0 }, { name := "UTF16", type := .byte, accessFlags := 24, slot := 6, constantValue := 0 }]
  methods := #[k7m0, k7m1, k7m2, k7m3, k7m4, k7m5, k7m6, k7m7, k7m8, k7m9, k7m10, k7m11, k7m12, k7m13, k7m14, k7m15, k7m16]
  instanceTypes := #[(.array .byte), .byte, .int, .boolean]
  staticTypes := #[.long, .boolean, (.array (.object "java/io/ObjectStreamField")), .char, (.object "java/util/Comparator"), .byte, .byte]
  resolved := Array.replicate 1451 none
  statics := some 0 }

def pool8 : Array CpInfo := pool [(6, .class_ 8), (1, u "java/lang/Object"), (0, u "<init>"), (0, u "()V"), (1, .class_ 14), (1, u "java/lang/StringUTF16"), (31, u "$assertionsDisabled"), (0, u "Z"), (13, u "HI_BYTE_SHIFT"), (0, u "I"), (2, u "LO_BYTE_SHIFT"), (49, .methodref 12 116), (0, .nameAndType 117 118), (0, u "compress"), (0, u "([CI[BII)I"), (3, u "([CII)[B"), (138, u "coderFromArrayLen"), (0, u "([BI)B"), (106, .class_ 371), (1, u "java/lang/StringUTF16$LinesSpliterator"), (58, u "MAX_LENGTH"), (196, .class_ 628), (0, u "java/lang/StringUTF16$CodePointsSpliterator"), (0, .class_ 630), (0, u "java/lang/StringUTF16$CharsSpliterator")] 4

def k8m0 : Method := { name := "<init>", desc := "()V", sig := { parameters := [], returnType := none }, accessFlags := 0, code := none }
def k8c1 : Code := { maxStack := 2, maxLocals := 2, code := jdk_52_method_15_code, exceptionTable := #[], attributes := #[] }
def k8m1 : Method := { name := "coderFromArrayLen", desc := "([BI)B", sig := { parameters := [(.array .byte), .int], returnType := some .byte }, accessFlags := 8, code := some k8c1 }
def k8c2 : Code := { maxStack := 5, maxLocals := 6, code := jdk_52_method_16_code, exceptionTable := #[], attributes := #[] }
def k8m2 : Method := { name := "compress", desc := "([CII)[B", sig := { parameters := [(.array .char), .int, .int], returnType := some (.array .byte) }, accessFlags := 9, code := some k8c2 }
def k8c3 : Code := { maxStack := 3, maxLocals := 7, code := jdk_52_method_21_code, exceptionTable := #[], attributes := #[] }
def k8m3 : Method := { name := "compress", desc := "([CI[BII)I", sig := { parameters := [(.array .char), .int, (.array .byte), .int, .int], returnType := some .int }, accessFlags := 9, code := some k8c3 }
/-- java/lang/StringUTF16 -/
def k8 : Class := { plain "java/lang/StringUTF16" (some 0) with
  accessFlags := 48
  interfaces := #[]
  cf := some (fileOf pool8 12 #[.nestMembers #[627, 629, 369]] #[{ accessFlags := 0, nameIndex := 9, descriptorIndex := 10, attributes := #[] }, { accessFlags := 8, nameIndex := 261, descriptorIndex := 262, attributes := #[] }, { accessFlags := 9, nameIndex := 117, descriptorIndex := 122, attributes := #[] }, { accessFlags := 9, nameIndex := 117, descriptorIndex := 118, attributes := #[] }] 48 6 #[] #[{ accessFlags := 26, nameIndex := 61, descriptorIndex := 62, attributes := #[] }, { accessFlags := 26, nameIndex := 65, descriptorIndex := 62, attributes := #[] }, { accessFlags := 24, nameIndex := 430, descriptorIndex := 62, attributes := #[] }, { accessFlags := 4120, nameIndex := 46, descriptorIndex := 47, attributes := #[] }])
  fields := #[{ name := "HI_BYTE_SHIFT", type := .int, accessFlags := 26, slot := 0, constantValue := 0 }, { name := "LO_BYTE_SHIFT", type := .int, accessFlags := 26, slot := 1, constantValue := 0 }, { name := "MAX_LENGTH", type := .int, accessFlags := 24, slot := 2, constantValue := 0 }, { name := "$assertionsDisabled", type := .boolean, accessFlags := 4120, slot := 3, constantValue := 0 }]
  methods := #[k8m0, k8m1, k8m2, k8m3]
  instanceTypes := #[]
  staticTypes := #[.int, .int, .int, .boolean]
  resolved := Array.replicate 635 none
  statics := none }

def pool9 : Array CpInfo := pool [(2, .class_ 4), (0, .nameAndType 5 6), (0, u "java/lang/Object"), (0, u "<init>"), (0, u "()V"), (1, .class_ 10), (1, u "holdfast/HashSlot"), (1, u "(Ljava/lang/String;)Ljava/lang/String;"), (7, .class_ 22), (1, u "java/lang/String"), (4, .methodref 8 28), (0, .nameAndType 29 30), (0, u "tagged"), (0, u "(Ljava/lang/String;)Z"), (0, .methodref 20 32), (0, .nameAndType 33 34), (0, u "isEmpty"), (0, u "()Z"), (0, .methodref 20 36), (0, .nameAndType 37 38), (0, u "indexOf"), (0, u "(I)I"), (0, .class_ 40), (0, u "java/lang/StringBuilder"), (0, .methodref 39 3), (0, .methodref 39 43), (0, .nameAndType 44 45), (0, u "append"), (0, u "(Ljava/lang/String;)Ljava/lang/StringBuilder;"), (4, .methodref 39 51), (0, .nameAndType 52 53), (0, u "toString"), (0, u "()Ljava/lang/String;"), (0, .methodref 8 55), (0, .nameAndType 56 30), (0, u "roomBeside"), (9, u "(Ljava/lang/String;Ljava/lang/String;)Ljava/lang/String;"), (3, .string 71), (0, u "{"), (0, .string 73), (0, u "}"), (0, .methodref 8 75), (0, .nameAndType 76 12), (0, u "tag"), (0, .methodref 20 78), (0, .nameAndType 37 79), (0, u "(II)I"), (0, .methodref 20 81), (0, .nameAndType 82 83), (0, u "substring"), (0, u "(II)Ljava/lang/String;"), (0, u "COUNT"), (0, u "I"), (2, u "CRC16_XMODEM"), (8, u "beside")] 2

def k9m0 : Method := { name := "<init>", desc := "()V", sig := { parameters := [], returnType := none }, accessFlags := 2, code := none }
def k9c1 : Code := { maxStack := 2, maxLocals := 1, code := prog_2_method_3_code, exceptionTable := #[], attributes := #[] }
def k9m1 : Method := { name := "roomBeside", desc := "(Ljava/lang/String;)Z", sig := { parameters := [(.object "java/lang/String")], returnType := some .boolean }, accessFlags := 8, code := some k9c1 }
def k9c2 : Code := { maxStack := 4, maxLocals := 2, code := prog_2_method_5_code, exceptionTable := #[], attributes := #[] }
def k9m2 : Method := { name := "beside", desc := "(Ljava/lang/String;Ljava/lang/String;)Ljava/lang/String;", sig := { parameters := [(.object "java/lang/String"), (.object "java/lang/String")], returnType := some (.object "java/lang/String") }, accessFlags := 8, code := some k9c2 }
def k9c3 : Code := { maxStack := 1, maxLocals := 1, code := prog_2_method_6_code, exceptionTable := #[], attributes := #[] }
def k9m3 : Method := { name := "tagged", desc := "(Ljava/lang/String;)Z", sig := { parameters := [(.object "java/lang/String")], returnType := some .boolean }, accessFlags := 10, code := some k9c3 }
def k9c4 : Code := { maxStack := 4, maxLocals := 3, code := prog_2_method_8_code, exceptionTable := #[], attributes := #[] }
def k9m4 : Method := { name := "tag", desc := "(Ljava/lang/String;)Ljava/lang/String;", sig := { parameters := [(.object "java/lang/String")], returnType := some (.object "java/lang/String") }, accessFlags := 10, code := some k9c4 }
/-- holdfast/HashSlot -/
def k9 : Class := { plain "holdfast/HashSlot" (some 0) with
  accessFlags := 48
  interfaces := #[]
  cf := some (fileOf pool9 8 #[] #[{ accessFlags := 2, nameIndex := 5, descriptorIndex := 6, attributes := #[] }, { accessFlags := 8, nameIndex := 56, descriptorIndex := 30, attributes := #[] }, { accessFlags := 8, nameIndex := 97, descriptorIndex := 66, attributes := #[] }, { accessFlags := 10, nameIndex := 29, descriptorIndex := 30, attributes := #[] }, { accessFlags := 10, nameIndex := 76, descriptorIndex := 12, attributes := #[] }] 48 2 #[] #[{ accessFlags := 24, nameIndex := 84, descriptorIndex := 85, attributes := #[] }, { accessFlags := 26, nameIndex := 88, descriptorIndex := 85, attributes := #[] }])
  fields := #[{ name := "COUNT", type := .int, accessFlags := 24, slot := 0, constantValue := 0 }, { name := "CRC16_XMODEM", type := .int, accessFlags := 26, slot := 1, constantValue := 0 }]
  methods := #[k9m0, k9m1, k9m2, k9m3, k9m4]
  instanceTypes := #[]
  staticTypes := #[.int, .int]
  resolved := Array.replicate 100 none
  statics := none }

def pool10 : Array CpInfo := pool [(1, .class_ 2), (0, u "java/lang/String"), (1, .class_ 6), (1, u "java/lang/Object"), (0, u "<init>"), (0, u "()V"), (0, .methodref 1 10), (0, .nameAndType 11 12), (0, u "checkIndex"), (0, u "(II)V"), (1, .class_ 16), (1, u "java/lang/StringLatin1"), (21, .methodref 39 40), (0, .class_ 41), (0, .nameAndType 42 43), (0, u "java/lang/Math"), (0, u "min"), (0, u "(II)I"), (9, u "([BI)C"), (34, .methodref 14 89), (0, .nameAndType 90 91), (0, u "canEncode"), (0, u "(I)Z"), (0, .methodref 39 93), (0, .nameAndType 94 43), (0, u "max"), (0, .methodref 14 96), (0, .nameAndType 97 98), (0, u "indexOfChar"), (0, u "([BIII)I"), (2, u "indexOf"), (10, .methodref 1 113), (0, .nameAndType 7 114), (0, u "([BB)V"), (6, u "$assertionsDisabled"), (0, u "Z"), (8, .class_ 133), (1, u "java/util/Arrays"), (62, u "newString"), (0, u "([BII)Ljava/lang/String;"), (23, .class_ 223), (1, u "java/lang/StringLatin1$LinesSpliterator"), (8, .methodref 131 233), (0, .nameAndType 234 235), (0, u "copyOfRange"), (0, u "([BII)[B"), (16, u "charAt"), (137, .class_ 391), (0, u "java/lang/StringLatin1$CharsSpliterator")] 3

def k10m0 : Method := { name := "<init>", desc := "()V", sig := { parameters := [], returnType := none }, accessFlags := 0, code := none }
def k10c1 : Code := { maxStack := 2, maxLocals := 2, code := jdk_43_method_2_code, exceptionTable := #[], attributes := #[] }
def k10m1 : Method := { name := "charAt", desc := "([BI)C", sig := { parameters := [(.array .byte), .int], returnType := some .char }, accessFlags := 9, code := some k10c1 }
def k10c2 : Code := { maxStack := 2, maxLocals := 1, code := jdk_43_method_4_code, exceptionTable := #[], attributes := #[] }
def k10m2 : Method := { name := "canEncode", desc := "(I)Z", sig := { parameters := [.int], returnType := some .boolean }, accessFlags := 9, code := some k10c2 }
def k10c3 : Code := { maxStack := 4, maxLocals := 4, code := jdk_43_method_22_code, exceptionTable := #[], attributes := #[] }
def k10m3 : Method := { name := "indexOf", desc := "([BIII)I", sig := { parameters := [(.array .byte), .int, .int, .int], returnType := some .int }, accessFlags := 9, code := some k10c3 }
def k10c4 : Code := { maxStack := 2, maxLocals := 6, code := jdk_43_method_23_code, exceptionTable := #[], attributes := #[] }
def k10m4 : Method := { name := "indexOfChar", desc := "([BIII)I", sig := { parameters := [(.array .byte), .int, .int, .int], returnType := some .int }, accessFlags := 10, code := some k10c4 }
def k10c5 : Code := { maxStack := 6, maxLocals := 3, code := jdk_43_method_47_code, exceptionTable := #[], attributes := #[] }
def k10m5 : Method := { name := "newString", desc := "([BII)Ljava/lang/String;", sig := { parameters := [(.array .byte), .int, .int], returnType := some (.object "java/lang/String") }, accessFlags := 9, code := some k10c5 }
/-- java/lang/StringLatin1 -/
def k10 : Class := { plain "java/lang/StringLatin1" (some 0) with
  accessFlags := 48
  interfaces := #[]
  cf := some (fileOf pool10 14 #[.nestMembers #[390, 221]] #[{ accessFlags := 0, nameIndex := 7, descriptorIndex := 8, attributes := #[] }, { accessFlags := 9, nameIndex := 252, descriptorIndex := 53, attributes := #[] }, { accessFlags := 9, nameIndex := 90, descriptorIndex := 91, attributes := #[] }, { accessFlags := 9, nameIndex := 101, descriptorIndex := 98, attributes := #[] }, { accessFlags := 10, nameIndex := 97, descriptorIndex := 98, attributes := #[] }, { accessFlags := 9, nameIndex := 196, descriptorIndex := 197, attributes := #[] }] 48 4 #[] #[{ accessFlags := 4120, nameIndex := 121, descriptorIndex := 122, attributes := #[] }])
  fields := #[{ name := "$assertionsDisabled", type := .boolean, accessFlags := 4120, slot := 0, constantValue := 0 }]
  methods := #[k10m0, k10m1, k10m2, k10m3, k10m4, k10m5]
  instanceTypes := #[]
  staticTypes := #[.boolean]
  resolved := Array.replicate 395 none
  statics := none }

def pool11 : Array CpInfo := pool [(1, .class_ 2), (0, u "java/lang/Math"), (1, .class_ 6), (1, u "java/lang/Object"), (0, u "<init>"), (0, u "()V"), (89, .class_ 100), (1, u "java/lang/Math$RandomNumberGeneratorHolder"), (71, u "negativeZeroFloatBits"), (0, u "J"), (2, u "negativeZeroDoubleBits"), (21, u "max"), (2, u "min"), (43, u "$assertionsDisabled"), (0, u "Z"), (88, u "(II)I"), (2, u "twoToTheDoubleScaleDown"), (0, u "D"), (4, u "twoToTheDoubleScaleUp"), (9, u "E"), (3, u "PI"), (2, u "TAU"), (2, u "DEGREES_TO_RADIANS"), (0, u "RADIANS_TO_DEGREES")] 94

def k11m0 : Method := { name := "<init>", desc := "()V", sig := { parameters := [], returnType := none }, accessFlags := 2, code := none }
def k11c1 : Code := { maxStack := 2, maxLocals := 2, code := jdk_29_method_65_code, exceptionTable := #[], attributes := #[] }
def k11m1 : Method := { name := "max", desc := "(II)I", sig := { parameters := [.int, .int], returnType := some .int }, accessFlags := 9, code := some k11c1 }
def k11c2 : Code := { maxStack := 2, maxLocals := 2, code := jdk_29_method_69_code, exceptionTable := #[], attributes := #[] }
def k11m2 : Method := { name := "min", desc := "(II)I", sig := { parameters := [.int, .int], returnType := some .int }, accessFlags := 9, code := some k11c2 }
/-- java/lang/Math -/
def k11 : Class := { plain "java/lang/Math" (some 0) with
  accessFlags := 49
  interfaces := #[]
  cf := some (fileOf pool11 1 #[.nestMembers #[98]] #[{ accessFlags := 2, nameIndex := 7, descriptorIndex := 8, attributes := #[] }, { accessFlags := 9, nameIndex := 198, descriptorIndex := 335, attributes := #[] }, { accessFlags := 9, nameIndex := 201, descriptorIndex := 335, attributes := #[] }] 49 4 #[] #[{ accessFlags := 25, nameIndex := 354, descriptorIndex := 339, attributes := #[] }, { accessFlags := 25, nameIndex := 358, descriptorIndex := 339, attributes := #[] }, { accessFlags := 25, nameIndex := 361, descriptorIndex := 339, attributes := #[] }, { accessFlags := 26, nameIndex := 364, descriptorIndex := 339, attributes := #[] }, { accessFlags := 26, nameIndex := 365, descriptorIndex := 339, attributes := #[] }, { accessFlags := 26, nameIndex := 172, descriptorIndex := 173, attributes := #[] }, { accessFlags := 26, nameIndex := 176, descriptorIndex := 173, attributes := #[] }, { accessFlags := 8, nameIndex := 344, descriptorIndex := 339, attributes := #[] }, { accessFlags := 8, nameIndex := 338, descriptorIndex := 339, attributes := #[] }, { accessFlags := 4120, nameIndex := 245, descriptorIndex := 246, attributes := #[] }])
  fields := #[{ name := "E", type := .double, accessFlags := 25, slot := 0, constantValue := 0 }, { name := "PI", type := .double, accessFlags := 25, slot := 1, constantValue := 0 }, { name := "TAU", type := .double, accessFlags := 25, slot := 2, constantValue := 0 }, { name := "DEGREES_TO_RADIANS", type := .double, accessFlags := 26, slot := 3, constantValue := 0 }, { name := "RADIANS_TO_DEGREES", type := .double, accessFlags := 26, slot := 4, constantValue := 0 }, { name := "negativeZeroFloatBits", type := .long, accessFlags := 26, slot := 5, constantValue := 0 }, { name := "negativeZeroDoubleBits", type := .long, accessFlags := 26, slot := 6, constantValue := 0 }, { name := "twoToTheDoubleScaleUp", type := .double, accessFlags := 8, slot := 7, constantValue := 0 }, { name := "twoToTheDoubleScaleDown", type := .double, accessFlags := 8, slot := 8, constantValue := 0 }, { name := "$assertionsDisabled", type := .boolean, accessFlags := 4120, slot := 9, constantValue := 0 }]
  methods := #[k11m0, k11m1, k11m2]
  instanceTypes := #[]
  staticTypes := #[.double, .double, .double, .double, .double, .long, .long, .double, .double, .boolean]
  resolved := Array.replicate 460 none
  statics := none }

def pool12 : Array CpInfo := pool [(1, .class_ 2), (0, u "java/lang/Appendable"), (0, .class_ 4), (0, u "java/lang/Object")] 9

/-- java/lang/Appendable -/
def k12 : Class := { plain "java/lang/Appendable" (some 0) with
  accessFlags := 1537
  interfaces := #[]
  cf := some (fileOf pool12 1 #[] #[] 1537 3 #[] #[])
  fields := #[]
  methods := #[]
  instanceTypes := #[]
  staticTypes := #[]
  resolved := Array.replicate 14 none
  statics := none }

def pool13 : Array CpInfo := pool [(1, .class_ 2), (0, u "java/lang/String"), (0, .methodref 4 5), (0, .class_ 6), (0, .nameAndType 7 8), (0, u "java/lang/Object"), (0, u "<init>"), (0, u "()V"), (1, .class_ 12), (1, u "java/lang/AbstractStringBuilder"), (0, u "EMPTYVALUE"), (0, u "[B"), (0, .fieldref 10 16), (0, .nameAndType 17 14), (0, u "value"), (0, .fieldref 1 19), (0, .nameAndType 20 21), (0, u "COMPACT_STRINGS"), (0, u "Z"), (0, .fieldref 10 23), (0, .nameAndType 24 25), (0, u "coder"), (0, u "B"), (6, .methodref 1 33), (0, .nameAndType 34 35), (0, u "length"), (0, u "()I"), (4, .methodref 1 41), (0, .nameAndType 24 42), (0, u "()B"), (2, u "append"), (0, u "(Ljava/lang/String;)Ljava/lang/AbstractStringBuilder;"), (1, .class_ 49), (0, u "java/lang/CharSequence"), (19, u "(Ljava/lang/String;)V"), (5, u "maybeLatin1"), (3, .fieldref 10 80), (0, .nameAndType 81 82), (0, u "count"), (0, u "I"), (2, u "isLatin1"), (0, u "()Z"), (13, .methodref 10 101), (0, .nameAndType 102 103), (0, u "ensureCapacityInternal"), (0, u "(I)V"), (104, .methodref 10 209), (0, .nameAndType 210 211), (0, u "putStringAt"), (0, u "(ILjava/lang/String;)V"), (5, u "inflateIfNeededFor"), (2, .nameAndType 221 222), (0, u "getBytes"), (0, u "([BIB)V"), (174, .methodref 10 398), (0, .nameAndType 217 69), (0, .methodref 1 220), (3, u "()[B"), (40, .class_ 445), (0, u "java/lang/Appendable"), (106, u "getValue")] 56

def k13m0 : Method := { name := "<init>", desc := "()V", sig := { parameters := [], returnType := none }, accessFlags := 0, code := none }
def k13c1 : Code := { maxStack := 2, maxLocals := 2, code := jdk_68_method_2_code, exceptionTable := #[], attributes := #[] }
def k13m1 : Method := { name := "<init>", desc := "(I)V", sig := { parameters := [.int], returnType := none }, accessFlags := 0, code := some k13c1 }
def k13c2 : Code := { maxStack := 1, maxLocals := 1, code := jdk_68_method_6_code, exceptionTable := #[], attributes := #[] }
def k13m2 : Method := { name := "length", desc := "()I", sig := { parameters := [], returnType := some .int }, accessFlags := 1, code := some k13c2 }
def k13c3 : Code := { maxStack := 4, maxLocals := 3, code := jdk_68_method_9_code, exceptionTable := #[], attributes := #[] }
def k13m3 : Method := { name := "ensureCapacityInternal", desc := "(I)V", sig := { parameters := [.int], returnType := none }, accessFlags := 2, code := some k13c3 }
def k13c4 : Code := { maxStack := 3, maxLocals := 3, code := jdk_68_method_22_code, exceptionTable := #[], attributes := #[] }
def k13m4 : Method := { name := "append", desc := "(Ljava/lang/String;)Ljava/lang/AbstractStringBuilder;", sig := { parameters := [(.object "java/lang/String")], returnType := some (.object "java/lang/AbstractStringBuilder") }, accessFlags := 1, code := some k13c4 }
def k13c5 : Code := { maxStack := 1, maxLocals := 1, code := jdk_68_method_64_code, exceptionTable := #[], attributes := #[] }
def k13m5 : Method := { name := "getValue", desc := "()[B", sig := { parameters := [], returnType := some (.array .byte) }, accessFlags := 16, code := some k13c5 }
def k13c6 : Code := { maxStack := 1, maxLocals := 1, code := jdk_68_method_68_code, exceptionTable := #[], attributes := #[] }
def k13m6 : Method := { name := "isLatin1", desc := "()Z", sig := { parameters := [], returnType := some .boolean }, accessFlags := 16, code := some k13c6 }
def k13c7 : Code := { maxStack := 2, maxLocals := 2, code := jdk_68_method_71_code, exceptionTable := #[], attributes := #[] }
def k13m7 : Method := { name := "inflateIfNeededFor", desc := "(Ljava/lang/String;)V", sig := { parameters := [(.object "java/lang/String")], returnType := none }, accessFlags := 2, code := some k13c7 }
def k13c8 : Code := { maxStack := 4, maxLocals := 3, code := jdk_68_method_73_code, exceptionTable := #[], attributes := #[] }
def k13m8 : Method := { name := "putStringAt", desc := "(ILjava/lang/String;)V", sig := { parameters := [.int, (.object "java/lang/String")], returnType := none }, accessFlags := 2, code := some k13c8 }
/-- java/lang/AbstractStringBuilder -/
def k13 : Class := { plain "java/lang/AbstractStringBuilder" (some 0) with
  accessFlags := 1056
  interfaces := #[12, 4]
  cf := some (fileOf pool13 10 #[] #[{ accessFlags := 0, nameIndex := 7, descriptorIndex := 8, attributes := #[] }, { accessFlags := 0, nameIndex := 7, descriptorIndex := 103, attributes := #[] }, { accessFlags := 1, nameIndex := 34, descriptorIndex := 35, attributes := #[] }, { accessFlags := 2, nameIndex := 102, descriptorIndex := 103, attributes := #[] }, { accessFlags := 1, nameIndex := 45, descriptorIndex := 46, attributes := #[] }, { accessFlags := 16, nameIndex := 552, descriptorIndex := 403, attributes := #[] }, { accessFlags := 16, nameIndex := 85, descriptorIndex := 86, attributes := #[] }, { accessFlags := 2, nameIndex := 217, descriptorIndex := 69, attributes := #[] }, { accessFlags := 2, nameIndex := 210, descriptorIndex := 211, attributes := #[] }] 1056 4 #[444, 48] #[{ accessFlags := 0, nameIndex := 17, descriptorIndex := 14, attributes := #[] }, { accessFlags := 0, nameIndex := 24, descriptorIndex := 25, attributes := #[] }, { accessFlags := 0, nameIndex := 75, descriptorIndex := 21, attributes := #[] }, { accessFlags := 0, nameIndex := 81, descriptorIndex := 82, attributes := #[] }, { accessFlags := 26, nameIndex := 13, descriptorIndex := 14, attributes := #[] }])
  fields := #[{ name := "value", type := (.array .byte), accessFlags := 0, slot := 0, constantValue := 0 }, { name := "coder", type := .byte, accessFlags := 0, slot := 1, constantValue := 0 }, { name := "maybeLatin1", type := .boolean, accessFlags := 0, slot := 2, constantValue := 0 }, { name := "count", type := .int, accessFlags := 0, slot := 3, constantValue := 0 }, { name := "EMPTYVALUE", type := (.array .byte), accessFlags := 26, slot := 0, constantValue := 0 }]
  methods := #[k13m0, k13m1, k13m2, k13m3, k13m4, k13m5, k13m6, k13m7, k13m8]
  instanceTypes := #[(.array .byte), .byte, .boolean, .int]
  staticTypes := #[(.array .byte)]
  resolved := Array.replicate 609 none
  statics := none }

def pool14 : Array CpInfo := pool [(1, .methodref 2 3), (0, .class_ 4), (0, .nameAndType 5 6), (0, u "java/lang/AbstractStringBuilder"), (0, u "<init>"), (0, u "(I)V"), (11, .class_ 20), (1, u "java/lang/String"), (3, .class_ 26), (1, u "java/lang/StringBuilder"), (0, u "append"), (0, u "(Ljava/lang/String;)Ljava/lang/StringBuilder;"), (0, .methodref 2 30), (0, .nameAndType 27 31), (0, u "(Ljava/lang/String;)Ljava/lang/AbstractStringBuilder;"), (105, .methodref 18 138), (0, .nameAndType 5 139), (0, u "(Ljava/lang/StringBuilder;)V"), (5, u "()V"), (10, u "()I"), (186, .methodref 2 344), (0, .nameAndType 345 156), (0, u "length"), (3, .class_ 350), (0, u "java/lang/Appendable"), (0, .class_ 352), (0, u "java/io/Serializable"), (0, .class_ 354), (0, u "java/lang/Comparable"), (0, .class_ 356), (0, u "java/lang/CharSequence"), (0, u "serialVersionUID"), (0, u "J"), (40, u "toString"), (0, u "()Ljava/lang/String;")] 21

def k14c0 : Code := { maxStack := 2, maxLocals := 1, code := jdk_67_method_1_code, exceptionTable := #[], attributes := #[] }
def k14m0 : Method := { name := "<init>", desc := "()V", sig := { parameters := [], returnType := none }, accessFlags := 1, code := some k14c0 }
def k14c1 : Code := { maxStack := 2, maxLocals := 2, code := jdk_67_method_7_code, exceptionTable := #[], attributes := #[] }
def k14m1 : Method := { name := "append", desc := "(Ljava/lang/String;)Ljava/lang/StringBuilder;", sig := { parameters := [(.object "java/lang/String")], returnType := some (.object "java/lang/StringBuilder") }, accessFlags := 1, code := some k14c1 }
def k14c2 : Code := { maxStack := 3, maxLocals := 1, code := jdk_67_method_42_code, exceptionTable := #[], attributes := #[] }
def k14m2 : Method := { name := "toString", desc := "()Ljava/lang/String;", sig := { parameters := [], returnType := some (.object "java/lang/String") }, accessFlags := 1, code := some k14c2 }
def k14c3 : Code := { maxStack := 1, maxLocals := 1, code := jdk_67_method_93_code, exceptionTable := #[], attributes := #[] }
def k14m3 : Method := { name := "length", desc := "()I", sig := { parameters := [], returnType := some .int }, accessFlags := 4161, code := some k14c3 }
/-- java/lang/StringBuilder -/
def k14 : Class := { plain "java/lang/StringBuilder" (some 13) with
  accessFlags := 49
  interfaces := #[12, 2, 3, 4]
  cf := some (fileOf pool14 24 #[] #[{ accessFlags := 1, nameIndex := 5, descriptorIndex := 145, attributes := #[] }, { accessFlags := 1, nameIndex := 27, descriptorIndex := 28, attributes := #[] }, { accessFlags := 1, nameIndex := 399, descriptorIndex := 400, attributes := #[] }, { accessFlags := 4161, nameIndex := 345, descriptorIndex := 156, attributes := #[] }] 49 2 #[349, 351, 353, 355] #[{ accessFlags := 24, nameIndex := 357, descriptorIndex := 358, attributes := #[] }])
  fields := #[{ name := "serialVersionUID", type := .long, accessFlags := 24, slot := 0, constantValue := 0 }]
  methods := #[k14m0, k14m1, k14m2, k14m3]
  instanceTypes := #[(.array .byte), .byte, .boolean, .int]
  staticTypes := #[.long]
  resolved := Array.replicate 422 none
  statics := none }

def pool15 : Array CpInfo := pool [(2, .class_ 4), (1, u "java/lang/Object"), (0, u "<init>"), (0, u "()V"), (1, .class_ 10), (1, u "java/lang/System"), (0, u "allowSecurityManager"), (0, u "I"), (16, u "cons"), (0, u "Ljava/io/Console;"), (77, .class_ 110), (1, u "java/lang/System$CallersHolder"), (43, u "initialErrStream"), (0, u "Ljava/io/PrintStream;"), (19, u "security"), (0, u "Ljava/lang/SecurityManager;"), (31, .class_ 209), (0, u "java/lang/System$1"), (7, u "props"), (0, u "Ljava/util/Properties;"), (2, u "lineSeparator"), (0, u "Ljava/lang/String;"), (96, .class_ 321), (1, u "java/lang/System$LoggerFinder"), (5, .class_ 328), (0, u "java/lang/System$Logger"), (67, u "err"), (2, u "out"), (91, u "notSupportedJnuEncoding"), (15, u "in"), (17, u "initialIn"), (0, u "Ljava/io/InputStream;"), (35, u "bootLayer"), (0, u "Ljava/lang/ModuleLayer;"), (99, .class_ 664), (0, u "java/lang/System$2"), (9, u "NEVER"), (2, u "MAYBE"), (49, u "arraycopy"), (0, u "(Ljava/lang/Object;ILjava/lang/Object;II)V"), (72, .class_ 802), (0, u "java/lang/System$Logger$Level")] 31

def k15m0 : Method := { name := "<init>", desc := "()V", sig := { parameters := [], returnType := none }, accessFlags := 2, code := none }
def k15m1 : Method := { name := "arraycopy", desc := "(Ljava/lang/Object;ILjava/lang/Object;II)V", sig := { parameters := [(.object "java/lang/Object"), .int, (.object "java/lang/Object"), .int, .int], returnType := none }, accessFlags := 265, code := none }
/-- java/lang/System -/
def k15 : Class := { plain "java/lang/System" (some 0) with
  accessFlags := 49
  interfaces := #[]
  cf := some (fileOf pool15 8 #[.nestMembers #[319, 327, 801, 108, 663, 208]] #[{ accessFlags := 2, nameIndex := 5, descriptorIndex := 6, attributes := #[] }, { accessFlags := 265, nameIndex := 727, descriptorIndex := 728, attributes := #[] }] 49 2 #[] #[{ accessFlags := 25, nameIndex := 507, descriptorIndex := 526, attributes := #[] }, { accessFlags := 25, nameIndex := 399, descriptorIndex := 155, attributes := #[] }, { accessFlags := 25, nameIndex := 396, descriptorIndex := 155, attributes := #[] }, { accessFlags := 10, nameIndex := 525, descriptorIndex := 526, attributes := #[] }, { accessFlags := 26, nameIndex := 674, descriptorIndex := 12, attributes := #[] }, { accessFlags := 26, nameIndex := 677, descriptorIndex := 12, attributes := #[] }, { accessFlags := 10, nameIndex := 11, descriptorIndex := 12, attributes := #[] }, { accessFlags := 74, nameIndex := 175, descriptorIndex := 176, attributes := #[] }, { accessFlags := 10, nameIndex := 491, descriptorIndex := 222, attributes := #[] }, { accessFlags := 74, nameIndex := 29, descriptorIndex := 30, attributes := #[] }, { accessFlags := 74, nameIndex := 154, descriptorIndex := 155, attributes := #[] }, { accessFlags := 10, nameIndex := 217, descriptorIndex := 218, attributes := #[] }, { accessFlags := 10, nameIndex := 221, descriptorIndex := 222, attributes := #[] }, { accessFlags := 8, nameIndex := 562, descriptorIndex := 563, attributes := #[] }])
  fields := #[{ name := "in", type := (.object "java/io/InputStream"), accessFlags := 25, slot := 0, constantValue := 0 }, { name := "out", type := (.object "java/io/PrintStream"), accessFlags := 25, slot := 1, constantValue := 0 }, { name := "err", type := (.object "java/io/PrintStream"), accessFlags := 25, slot := 2, constantValue := 0 }, { name := "initialIn", type := (.object "java/io/InputStream"), accessFlags := 10, slot := 3, constantValue := 0 }, { name := "NEVER", type := .int, accessFlags := 26, slot := 4, constantValue := 0 }, { name := "MAYBE", type := .int, accessFlags := 26, slot := 5, constantValue := 0 }, { name := "allowSecurityManager", type := .int, accessFlags := 10, slot := 6, constantValue := 0 }, { name := "security", type := (.object "java/lang/SecurityManager"), accessFlags := 74, slot := 7, constantValue := 0 }, { name := "notSupportedJnuEncoding", type := (.object "java/lang/String"), accessFlags := 10, slot := 8, constantValue := 0 }, { name := "cons", type := (.object "java/io/Console"), accessFlags := 74, slot := 9, constantValue := 0 }, { name := "initialErrStream", type := (.object "java/io/PrintStream"), accessFlags := 74, slot := 10, constantValue := 0 }, { name := "props", type := (.object "java/util/Properties"), accessFlags := 10, slot := 11, constantValue := 0 }, { name := "lineSeparator", type := (.object "java/lang/String"), accessFlags := 10, slot := 12, constantValue := 0 }, { name := "bootLayer", type := (.object "java/lang/ModuleLayer"), accessFlags := 8, slot := 13, constantValue := 0 }]
  methods := #[k15m0, k15m1]
  instanceTypes := #[]
  staticTypes := #[(.object "java/io/InputStream"), (.object "java/io/PrintStream"), (.object "java/io/PrintStream"), (.object "java/io/InputStream"), .int, .int, .int, (.object "java/lang/SecurityManager"), (.object "java/lang/String"), (.object "java/io/Console"), (.object "java/io/PrintStream"), (.object "java/util/Properties"), (.object "java/lang/String"), (.object "java/lang/ModuleLayer")]
  resolved := Array.replicate 834 none
  statics := none }

def pool16 : Array CpInfo := pool [(2, .class_ 4), (1, u "java/lang/Object"), (0, u "<init>"), (0, u "()V"), (7, .class_ 16), (1, u "java/util/Arrays"), (57, .class_ 76), (1, u "java/util/Arrays$NaturalOrder"), (36, .class_ 115), (1, u "java/util/Arrays$LegacyMergeSort"), (1, u "Z"), (21, u "copyOfRange"), (10, .methodref 151 152), (0, .class_ 153), (0, .nameAndType 154 155), (0, u "java/lang/System"), (0, u "arraycopy"), (0, u "(Ljava/lang/Object;ILjava/lang/Object;II)V"), (148, .methodref 305 306), (0, .class_ 307), (0, .nameAndType 308 309), (0, u "java/lang/Math"), (0, u "min"), (0, u "(II)I"), (29, .methodref 14 340), (0, .nameAndType 341 342), (0, u "copyOfRangeByte"), (0, u "([BII)[B"), (0, .methodref 14 344), (0, .nameAndType 345 346), (0, u "checkLength"), (0, u "(II)V"), (28, .class_ 376), (0, u "java/util/Arrays$ArrayList"), (68, u "$assertionsDisabled"), (269, u "MIN_ARRAY_SORT_GRAN"), (0, u "I"), (2, u "INSERTIONSORT_THRESHOLD"), (255, .class_ 976), (0, u "java/util/Arrays$ArrayItr")] 52

def k16m0 : Method := { name := "<init>", desc := "()V", sig := { parameters := [], returnType := none }, accessFlags := 2, code := none }
def k16c1 : Code := { maxStack := 4, maxLocals := 2, code := jdk_65_method_131_code, exceptionTable := #[], attributes := #[] }
def k16m1 : Method := { name := "checkLength", desc := "(II)V", sig := { parameters := [.int, .int], returnType := none }, accessFlags := 10, code := some k16c1 }
def k16c2 : Code := { maxStack := 3, maxLocals := 3, code := jdk_65_method_132_code, exceptionTable := #[], attributes := #[] }
def k16m2 : Method := { name := "copyOfRange", desc := "([BII)[B", sig := { parameters := [(.array .byte), .int, .int], returnType := some (.array .byte) }, accessFlags := 9, code := some k16c2 }
def k16c3 : Code := { maxStack := 6, maxLocals := 5, code := jdk_65_method_133_code, exceptionTable := #[], attributes := #[] }
def k16m3 : Method := { name := "copyOfRangeByte", desc := "([BII)[B", sig := { parameters := [(.array .byte), .int, .int], returnType := some (.array .byte) }, accessFlags := 10, code := some k16c3 }
/-- java/util/Arrays -/
def k16 : Class := { plain "java/util/Arrays" (some 0) with
  accessFlags := 49
  interfaces := #[]
  cf := some (fileOf pool16 14 #[.nestMembers #[975, 375, 113, 74]] #[{ accessFlags := 2, nameIndex := 5, descriptorIndex := 6, attributes := #[] }, { accessFlags := 10, nameIndex := 345, descriptorIndex := 346, attributes := #[] }, { accessFlags := 9, nameIndex := 139, descriptorIndex := 342, attributes := #[] }, { accessFlags := 10, nameIndex := 341, descriptorIndex := 342, attributes := #[] }] 49 2 #[] #[{ accessFlags := 26, nameIndex := 715, descriptorIndex := 716, attributes := #[] }, { accessFlags := 26, nameIndex := 719, descriptorIndex := 716, attributes := #[] }, { accessFlags := 4120, nameIndex := 445, descriptorIndex := 117, attributes := #[] }])
  fields := #[{ name := "MIN_ARRAY_SORT_GRAN", type := .int, accessFlags := 26, slot := 0, constantValue := 0 }, { name := "INSERTIONSORT_THRESHOLD", type := .int, accessFlags := 26, slot := 1, constantValue := 0 }, { name := "$assertionsDisabled", type := .boolean, accessFlags := 4120, slot := 2, constantValue := 0 }]
  methods := #[k16m0, k16m1, k16m2, k16m3]
  instanceTypes := #[]
  staticTypes := #[.int, .int, .boolean]
  resolved := Array.replicate 1029 none
  statics := none }

def pool17 : Array CpInfo := pool [(2, .class_ 4), (1, u "java/lang/Object"), (0, u "<init>"), (0, u "()V"), (17, .class_ 26), (1, u "jdk/internal/util/Preconditions"), (6, u "checkIndex"), (13, u "checkFromToIndex"), (7, .class_ 56), (0, u "jdk/internal/util/Preconditions$4"), (57, .class_ 115), (0, u "jdk/internal/util/Preconditions$1"), (7, u "SIOOBE_FORMATTER"), (0, u "Ljava/util/function/BiFunction;"), (0, .class_ 126), (0, u "jdk/internal/util/Preconditions$2"), (3, u "AIOOBE_FORMATTER"), (0, .class_ 132), (0, u "jdk/internal/util/Preconditions$3"), (3, u "IOOBE_FORMATTER"), (41, u "(IILjava/util/function/BiFunction;)I"), (4, u "(IIILjava/util/function/BiFunction;)I")] 10

def k17m0 : Method := { name := "<init>", desc := "()V", sig := { parameters := [], returnType := none }, accessFlags := 1, code := none }
def k17c1 : Code := { maxStack := 3, maxLocals := 3, code := jdk_41_method_11_code, exceptionTable := #[], attributes := #[] }
def k17m1 : Method := { name := "checkIndex", desc := "(IILjava/util/function/BiFunction;)I", sig := { parameters := [.int, .int, (.object "java/util/function/BiFunction")], returnType := some .int }, accessFlags := 9, code := some k17c1 }
def k17c2 : Code := { maxStack := 4, maxLocals := 4, code := jdk_41_method_12_code, exceptionTable := #[], attributes := #[] }
def k17m2 : Method := { name := "checkFromToIndex", desc := "(IIILjava/util/function/BiFunction;)I", sig := { parameters := [.int, .int, .int, (.object "java/util/function/BiFunction")], returnType := some .int }, accessFlags := 9, code := some k17c2 }
/-- jdk/internal/util/Preconditions -/
def k17 : Class := { plain "jdk/internal/util/Preconditions" (some 0) with
  accessFlags := 33
  interfaces := #[]
  cf := some (fileOf pool17 24 #[.nestMembers #[55, 131, 125, 114]] #[{ accessFlags := 1, nameIndex := 5, descriptorIndex := 6, attributes := #[] }, { accessFlags := 9, nameIndex := 33, descriptorIndex := 178, attributes := #[] }, { accessFlags := 9, nameIndex := 47, descriptorIndex := 183, attributes := #[] }] 33 2 #[] #[{ accessFlags := 25, nameIndex := 123, descriptorIndex := 124, attributes := #[] }, { accessFlags := 25, nameIndex := 130, descriptorIndex := 124, attributes := #[] }, { accessFlags := 25, nameIndex := 136, descriptorIndex := 124, attributes := #[] }])
  fields := #[{ name := "SIOOBE_FORMATTER", type := (.object "java/util/function/BiFunction"), accessFlags := 25, slot := 0, constantValue := 0 }, { name := "AIOOBE_FORMATTER", type := (.object "java/util/function/BiFunction"), accessFlags := 25, slot := 1, constantValue := 0 }, { name := "IOOBE_FORMATTER", type := (.object "java/util/function/BiFunction"), accessFlags := 25, slot := 2, constantValue := 0 }]
  methods := #[k17m0, k17m1, k17m2]
  instanceTypes := #[]
  staticTypes := #[(.object "java/util/function/BiFunction"), (.object "java/util/function/BiFunction"), (.object "java/util/function/BiFunction")]
  resolved := Array.replicate 194 none
  statics := some 1 }

def pool18 : Array CpInfo := pool [(9, u "<init>"), (6, .class_ 18), (1, u "java/lang/Object"), (0, u "()V"), (1, .class_ 23), (1, u "jdk/internal/util/ArraysSupport"), (0, u "LOG2_ARRAY_LONG_INDEX_SCALE"), (0, u "I"), (2, u "U"), (0, u "Ljdk/internal/misc/Unsafe;"), (8, u "BIG_ENDIAN"), (0, u "Z"), (8, u "LOG2_BYTE_BIT_SIZE"), (4, u "LOG2_ARRAY_INT_INDEX_SCALE"), (54, u "JLA"), (0, u "Ljdk/internal/access/JavaLangAccess;"), (11, u "LOG2_ARRAY_BOOLEAN_INDEX_SCALE"), (9, u "LOG2_ARRAY_BYTE_INDEX_SCALE"), (5, u "LOG2_ARRAY_CHAR_INDEX_SCALE"), (5, u "LOG2_ARRAY_SHORT_INDEX_SCALE"), (18, u "LOG2_ARRAY_FLOAT_INDEX_SCALE"), (24, u "LOG2_ARRAY_DOUBLE_INDEX_SCALE"), (89, u "T_BOOLEAN"), (2, u "T_CHAR"), (1, u "T_FLOAT"), (1, u "T_DOUBLE"), (1, u "T_BYTE"), (1, u "T_SHORT"), (1, u "T_INT"), (1, u "T_LONG"), (1, u "SOFT_MAX_ARRAY_LENGTH")] 83

def k18m0 : Method := { name := "<init>", desc := "()V", sig := { parameters := [], returnType := none }, accessFlags := 2, code := none }
/-- jdk/internal/util/ArraysSupport -/
def k18 : Class := { plain "jdk/internal/util/ArraysSupport" (some 0) with
  accessFlags := 33
  interfaces := #[]
  cf := some (fileOf pool18 21 #[] #[{ accessFlags := 2, nameIndex := 9, descriptorIndex := 19, attributes := #[] }] 33 16 #[] #[{ accessFlags := 24, nameIndex := 28, descriptorIndex := 29, attributes := #[] }, { accessFlags := 26, nameIndex := 38, descriptorIndex := 39, attributes := #[] }, { accessFlags := 25, nameIndex := 121, descriptorIndex := 25, attributes := #[] }, { accessFlags := 25, nameIndex := 131, descriptorIndex := 25, attributes := #[] }, { accessFlags := 25, nameIndex := 137, descriptorIndex := 25, attributes := #[] }, { accessFlags := 25, nameIndex := 143, descriptorIndex := 25, attributes := #[] }, { accessFlags := 25, nameIndex := 53, descriptorIndex := 25, attributes := #[] }, { accessFlags := 25, nameIndex := 24, descriptorIndex := 25, attributes := #[] }, { accessFlags := 25, nameIndex := 162, descriptorIndex := 25, attributes := #[] }, { accessFlags := 25, nameIndex := 187, descriptorIndex := 25, attributes := #[] }, { accessFlags := 26, nameIndex := 48, descriptorIndex := 25, attributes := #[] }, { accessFlags := 25, nameIndex := 277, descriptorIndex := 25, attributes := #[] }, { accessFlags := 25, nameIndex := 280, descriptorIndex := 25, attributes := #[] }, { accessFlags := 25, nameIndex := 282, descriptorIndex := 25, attributes := #[] }, { accessFlags := 25, nameIndex := 284, descriptorIndex := 25, attributes := #[] }, { accessFlags := 25, nameIndex := 286, descriptorIndex := 25, attributes := #[] }, { accessFlags := 25, nameIndex := 288, descriptorIndex := 25, attributes := #[] }, { accessFlags := 25, nameIndex := 290, descriptorIndex := 25, attributes := #[] }, { accessFlags := 25, nameIndex := 292, descriptorIndex := 25, attributes := #[] }, { accessFlags := 26, nameIndex := 108, descriptorIndex := 109, attributes := #[] }, { accessFlags := 25, nameIndex := 294, descriptorIndex := 25, attributes := #[] }])
  fields := #[{ name := "U", type := (.object "jdk/internal/misc/Unsafe"), accessFlags := 24, slot := 0, constantValue := 0 }, { name := "BIG_ENDIAN", type := .boolean, accessFlags := 26, slot := 1, constantValue := 0 }, { name := "LOG2_ARRAY_BOOLEAN_INDEX_SCALE", type := .int, accessFlags := 25, slot := 2, constantValue := 0 }, { name := "LOG2_ARRAY_BYTE_INDEX_SCALE", type := .int, accessFlags := 25, slot := 3, constantValue := 0 }, { name := "LOG2_ARRAY_CHAR_INDEX_SCALE", type := .int, accessFlags := 25, slot := 4, constantValue := 0 }, { name := "LOG2_ARRAY_SHORT_INDEX_SCALE", type := .int, accessFlags := 25, slot := 5, constantValue := 0 }, { name := "LOG2_ARRAY_INT_INDEX_SCALE", type := .int, accessFlags := 25, slot := 6, constantValue := 0 }, { name := "LOG2_ARRAY_LONG_INDEX_SCALE", type := .int, accessFlags := 25, slot := 7, constantValue := 0 }, { name := "LOG2_ARRAY_FLOAT_INDEX_SCALE", type := .int, accessFlags := 25, slot := 8, constantValue := 0 }, { name := "LOG2_ARRAY_DOUBLE_INDEX_SCALE", type := .int, accessFlags := 25, slot := 9, constantValue := 0 }, { name := "LOG2_BYTE_BIT_SIZE", type := .int, accessFlags := 26, slot := 10, constantValue := 0 }, { name := "T_BOOLEAN", type := .int, accessFlags := 25, slot := 11, constantValue := 0 }, { name := "T_CHAR", type := .int, accessFlags := 25, slot := 12, constantValue := 0 }, { name := "T_FLOAT", type := .int, accessFlags := 25, slot := 13, constantValue := 0 }, { name := "T_DOUBLE", type := .int, accessFlags := 25, slot := 14, constantValue := 0 }, { name := "T_BYTE", type := .int, accessFlags := 25, slot := 15, constantValue := 0 }, { name := "T_SHORT", type := .int, accessFlags := 25, slot := 16, constantValue := 0 }, { name := "T_INT", type := .int, accessFlags := 25, slot := 17, constantValue := 0 }, { name := "T_LONG", type := .int, accessFlags := 25, slot := 18, constantValue := 0 }, { name := "JLA", type := (.object "jdk/internal/access/JavaLangAccess"), accessFlags := 26, slot := 19, constantValue := 0 }, { name := "SOFT_MAX_ARRAY_LENGTH", type := .int, accessFlags := 25, slot := 20, constantValue := 0 }]
  methods := #[k18m0]
  instanceTypes := #[]
  staticTypes := #[(.object "jdk/internal/misc/Unsafe"), .boolean, .int, .int, .int, .int, .int, .int, .int, .int, .int, .int, .int, .int, .int, .int, .int, .int, .int, (.object "jdk/internal/access/JavaLangAccess"), .int]
  resolved := Array.replicate 378 none
  statics := none }

def pool19 : Array CpInfo := pool [(1, u "java/lang/Cloneable"), (0, .class_ 1), (0, u "java/lang/Object"), (0, .class_ 3)] 3

/-- java/lang/Cloneable -/
def k19 : Class := { plain "java/lang/Cloneable" (some 0) with
  accessFlags := 1537
  interfaces := #[]
  cf := some (fileOf pool19 2 #[] #[] 1537 4 #[] #[])
  fields := #[]
  methods := #[]
  instanceTypes := #[]
  staticTypes := #[]
  resolved := Array.replicate 8 none
  statics := none }

/-- the primitive byte -/
def k20 : Class := { plain "byte" none with kind := .primitive 'B', accessFlags := 0x411 }
/-- [B -/
def k21 : Class := { plain "[B" (some 0) with kind := .array 20 .byte, interfaces := #[19, 2], accessFlags := 1041 }

/-- the primitive char -/
def k22 : Class := { plain "char" none with kind := .primitive 'C', accessFlags := 0x411 }
/-- [C -/
def k23 : Class := { plain "[C" (some 0) with kind := .array 22 .char, interfaces := #[19, 2], accessFlags := 1041 }

/-- the primitive int -/
def k24 : Class := { plain "int" none with kind := .primitive 'I', accessFlags := 0x411 }
/-- [I -/
def k25 : Class := { plain "[I" (some 0) with kind := .array 24 .int, interfaces := #[19, 2], accessFlags := 1041 }

def heap : Heap := #[{ cls := 7, slots := #[.long 0, .int 1, .null, .int 0, .null, .int 0, .int 0], vm := .statics 7 },
  { cls := 17, slots := #[.null, .null, .null], vm := .statics 17 }]
def classes : Array Class := #[k0, k1, k2, k3, k4, k5, k6, k7, k8, k9, k10, k11, k12, k13, k14, k15, k16, k17, k18, k19, k20, k21, k22, k23, k24, k25]
def interned : List (Array UInt16 × Addr) := []
def slotsUsed : Nat := 10
def theMethod : MethodId := ⟨1, 1⟩
def args0 : Array Value := #[.long 2, .int 2, .int 65, .int 1]
def aboutOver (below : List Frame) : State where
  vm := { classes := classes, interned := interned.toArray }
  heap := heap
  slotsUsed := slotsUsed
  threads := #[{ frames := .invoking theMethod args0 :: below }]
def below0 : List Frame := [.native { method := ⟨0, 0⟩, args := #[] }]
def about1 : State := aboutOver below0
def p0 : Program := .bare "" "" ""
def e0 : Env := launch0.env 0 0 0
theorem w_frames : about1.frames = Frame.invoking theMethod args0 :: below0 := rfl
set_option maxRecDepth 65536 in
theorem w_args : argsFit about1.vm theMethod args0 = true := by decide +kernel
set_option maxRecDepth 65536 in
theorem w_heap : heapFits about1 = true := by decide +kernel
set_option maxRecDepth 65536 in
theorem w_runnable : about1.curStatus? = some .runnable := by decide +kernel
set_option maxRecDepth 65536 in
theorem w_alone : about1.alone = true := by decide +kernel
set_option maxRecDepth 65536 in
theorem w_named : about1.methodNamed? x = some theMethod := by decide +kernel
set_option maxRecDepth 65536 in
theorem w_hears : about1.hears theMethod below0 = true := by decide +kernel
set_option maxRecDepth 65536 in
theorem w_ripe : about1.ripe theMethod args0 below0 = true := by decide +kernel
theorem w_running : about1.status = .running := rfl
set_option maxRecDepth 65536 in
theorem w_room : about1.hasRoom e0.platform room_1 = true :=
  launch0.hasRoom_least _ room_1 (by decide +kernel) (by decide +kernel) (by decide +kernel) (by decide +kernel) (by decide +kernel) (by decide +kernel)
theorem allAtoms_all (ts : List Jvm.Cond) (a : Array Jvm.Value) (st : Jvm.State) : (allAtoms ts).before a st = ts.all (fun c => c.before a st) := by
  induction ts with
  | nil => rfl
  | cons c t ih =>
    show (Jvm.Cond.and c (allAtoms t)).before a st = _
    rw [Jvm.Cond.before_and, ih, List.all_cons]
def words1 : List Jvm.Cond := Jvm.Cond.code x code maxLocals ret :: tables_1
/-- a 'code' word, met by the world's own term for the bytes: nothing is compared byte by byte -/
theorem code_word {y : MethodName} {bytes : ByteArray} {mx : Nat} {rt : Option FieldType} {a : Array Value} {s : State} {m : MethodId} {meth : Method} {c : Code} (h1 : s.methodNamed? y = some m) (h2 : s.vm.method? m = some meth) (h3 : meth.code = some c) (h4 : c.code = bytes)
    (h5 : (c.maxLocals == mx && c.exceptionTable.isEmpty && decide (c.maxStack ≤ mostOperands) && decide (meth.sig.returnType = rt) && !meth.locks && decide (parseMethodDescriptor y.desc = some meth.sig)) = true) : (Jvm.Cond.code y bytes mx rt).before a s = true := by
  simp only [Bool.and_eq_true, beq_iff_eq, Bool.not_eq_true', decide_eq_true_eq] at h5
  obtain ⟨⟨⟨⟨⟨g1, g2⟩, g3⟩, g4⟩, g5⟩, g6⟩ := h5
  simp [Cond.before, Cond.holds, Cond.value, h1, h2, h3, h4, g1, g2, g3, g4, g5, g6]
def isCode : Jvm.Cond → Bool
  | .code _ _ _ _ => true
  | _ => false
theorem all_split {L : List Jvm.Cond} {P : Jvm.Cond → Bool} (h1 : L.all (fun c => isCode c || P c) = true) (h2 : ∀ c ∈ L.filter isCode, P c = true) : L.all P = true := by
  refine List.all_eq_true.mpr fun c hc => ?_
  have h := List.all_eq_true.mp h1 c hc
  rcases Bool.eq_false_or_eq_true (isCode c) with hi | hi
  · exact h2 c (List.mem_filter.mpr ⟨hc, hi⟩)
  · simpa [hi] using h
set_option maxRecDepth 65536 in
theorem w_c0 : (Jvm.Cond.code x code maxLocals ret).before args0 about1 = true := code_word (m := ⟨1, 1⟩) (meth := k1m1) (c := k1c1) (by decide +kernel) rfl rfl rfl (by decide +kernel)
set_option maxRecDepth 65536 in
theorem w_c1 : (Jvm.Cond.code ({ cls := "holdfast/HashSlotBesidePinLaw", name := "draw", desc := "(JI)C" } : Jvm.MethodName) method_3_code (5 : Nat) (Option.some Jvm.ClassFile.FieldType.char)).before args0 about1 = true := code_word (m := ⟨1, 2⟩) (meth := k1m2) (c := k1c2) (by decide +kernel) rfl rfl rfl (by decide +kernel)
set_option maxRecDepth 65536 in
theorem w_c2 : (Jvm.Cond.code ({ cls := "holdfast/HashSlotBesidePinLaw", name := "make", desc := "(ICCCC)Ljava/lang/String;" } : Jvm.MethodName) method_4_code (5 : Nat) (Option.some (Jvm.ClassFile.FieldType.object "java/lang/String"))).before args0 about1 = true := code_word (m := ⟨1, 3⟩) (meth := k1m3) (c := k1c3) (by decide +kernel) rfl rfl rfl (by decide +kernel)
set_option maxRecDepth 65536 in
theorem w_c3 : (Jvm.Cond.code ({ cls := "java/lang/String", name := "<init>", desc := "([C)V" } : Jvm.MethodName) jdk_42_method_3_code (2 : Nat) (Option.none : Option Jvm.ClassFile.FieldType)).before args0 about1 = true := code_word (m := ⟨7, 1⟩) (meth := k7m1) (c := k7c1) (by decide +kernel) rfl rfl rfl (by decide +kernel)
set_option maxRecDepth 65536 in
theorem w_c4 : (Jvm.Cond.code ({ cls := "java/lang/String", name := "<init>", desc := "([CIILjava/lang/Void;)V" } : Jvm.MethodName) jdk_42_method_149_code (6 : Nat) (Option.none : Option Jvm.ClassFile.FieldType)).before args0 about1 = true := code_word (m := ⟨7, 10⟩) (meth := k7m10) (c := k7c10) (by decide +kernel) rfl rfl rfl (by decide +kernel)
set_option maxRecDepth 65536 in
theorem w_c5 : (Jvm.Cond.code ({ cls := "java/lang/Object", name := "<init>", desc := "()V" } : Jvm.MethodName) object_method_1_code (1 : Nat) (Option.none : Option Jvm.ClassFile.FieldType)).before args0 about1 = true := code_word (m := ⟨0, 0⟩) (meth := k0m0) (c := k0c0) (by decide +kernel) rfl rfl rfl (by decide +kernel)
set_option maxRecDepth 65536 in
theorem w_c6 : (Jvm.Cond.code ({ cls := "java/lang/StringUTF16", name := "compress", desc := "([CII)[B" } : Jvm.MethodName) jdk_52_method_16_code (6 : Nat) (Option.some (Jvm.ClassFile.FieldType.array Jvm.ClassFile.FieldType.byte))).before args0 about1 = true := code_word (m := ⟨8, 2⟩) (meth := k8m2) (c := k8c2) (by decide +kernel) rfl rfl rfl (by decide +kernel)
set_option maxRecDepth 65536 in
theorem w_c7 : (Jvm.Cond.code ({ cls := "java/lang/StringUTF16", name := "compress", desc := "([CI[BII)I" } : Jvm.MethodName) jdk_52_method_21_code (7 : Nat) (Option.some Jvm.ClassFile.FieldType.int)).before args0 about1 = true := code_word (m := ⟨8, 3⟩) (meth := k8m3) (c := k8c3) (by decide +kernel) rfl rfl rfl (by decide +kernel)
set_option maxRecDepth 65536 in
theorem w_c8 : (Jvm.Cond.code ({ cls := "java/lang/StringUTF16", name := "coderFromArrayLen", desc := "([BI)B" } : Jvm.MethodName) jdk_52_method_15_code (2 : Nat) (Option.some Jvm.ClassFile.FieldType.byte)).before args0 about1 = true := code_word (m := ⟨8, 1⟩) (meth := k8m1) (c := k8c1) (by decide +kernel) rfl rfl rfl (by decide +kernel)
set_option maxRecDepth 65536 in
theorem w_c9 : (Jvm.Cond.code ({ cls := "holdfast/HashSlot", name := "beside", desc := "(Ljava/lang/String;Ljava/lang/String;)Ljava/lang/String;" } : Jvm.MethodName) prog_2_method_5_code (2 : Nat) (Option.some (Jvm.ClassFile.FieldType.object "java/lang/String"))).before args0 about1 = true := code_word (m := ⟨9, 2⟩) (meth := k9m2) (c := k9c2) (by decide +kernel) rfl rfl rfl (by decide +kernel)
set_option maxRecDepth 65536 in
theorem w_c10 : (Jvm.Cond.code ({ cls := "holdfast/HashSlot", name := "tagged", desc := "(Ljava/lang/String;)Z" } : Jvm.MethodName) prog_2_method_6_code (1 : Nat) (Option.some Jvm.ClassFile.FieldType.boolean)).before args0 about1 = true := code_word (m := ⟨9, 3⟩) (meth := k9m3) (c := k9c3) (by decide +kernel) rfl rfl rfl (by decide +kernel)
set_option maxRecDepth 65536 in
theorem w_c11 : (Jvm.Cond.code ({ cls := "holdfast/HashSlot", name := "tag", desc := "(Ljava/lang/String;)Ljava/lang/String;" } : Jvm.MethodName) prog_2_method_8_code (3 : Nat) (Option.some (Jvm.ClassFile.FieldType.object "java/lang/String"))).before args0 about1 = true := code_word (m := ⟨9, 4⟩) (meth := k9m4) (c := k9c4) (by decide +kernel) rfl rfl rfl (by decide +kernel)
set_option maxRecDepth 65536 in
theorem w_c12 : (Jvm.Cond.code ({ cls := "java/lang/String", name := "indexOf", desc := "(I)I" } : Jvm.MethodName) jdk_42_method_79_code (2 : Nat) (Option.some Jvm.ClassFile.FieldType.int)).before args0 about1 = true := code_word (m := ⟨7, 6⟩) (meth := k7m6) (c := k7c6) (by decide +kernel) rfl rfl rfl (by decide +kernel)
set_option maxRecDepth 65536 in
theorem w_c13 : (Jvm.Cond.code ({ cls := "java/lang/String", name := "indexOf", desc := "(II)I" } : Jvm.MethodName) jdk_42_method_80_code (3 : Nat) (Option.some Jvm.ClassFile.FieldType.int)).before args0 about1 = true := code_word (m := ⟨7, 7⟩) (meth := k7m7) (c := k7c7) (by decide +kernel) rfl rfl rfl (by decide +kernel)
set_option maxRecDepth 65536 in
theorem w_c14 : (Jvm.Cond.code ({ cls := "java/lang/String", name := "isLatin1", desc := "()Z" } : Jvm.MethodName) jdk_42_method_154_code (1 : Nat) (Option.some Jvm.ClassFile.FieldType.boolean)).before args0 about1 = true := code_word (m := ⟨7, 14⟩) (meth := k7m14) (c := k7c14) (by decide +kernel) rfl rfl rfl (by decide +kernel)
set_option maxRecDepth 65536 in
theorem w_c15 : (Jvm.Cond.code ({ cls := "java/lang/String", name := "length", desc := "()I" } : Jvm.MethodName) jdk_42_method_54_code (1 : Nat) (Option.some Jvm.ClassFile.FieldType.int)).before args0 about1 = true := code_word (m := ⟨7, 3⟩) (meth := k7m3) (c := k7c3) (by decide +kernel) rfl rfl rfl (by decide +kernel)
set_option maxRecDepth 65536 in
theorem w_c16 : (Jvm.Cond.code ({ cls := "java/lang/String", name := "coder", desc := "()B" } : Jvm.MethodName) jdk_42_method_152_code (1 : Nat) (Option.some Jvm.ClassFile.FieldType.byte)).before args0 about1 = true := code_word (m := ⟨7, 13⟩) (meth := k7m13) (c := k7c13) (by decide +kernel) rfl rfl rfl (by decide +kernel)
set_option maxRecDepth 65536 in
theorem w_c17 : (Jvm.Cond.code ({ cls := "java/lang/StringLatin1", name := "indexOf", desc := "([BIII)I" } : Jvm.MethodName) jdk_43_method_22_code (4 : Nat) (Option.some Jvm.ClassFile.FieldType.int)).before args0 about1 = true := code_word (m := ⟨10, 3⟩) (meth := k10m3) (c := k10c3) (by decide +kernel) rfl rfl rfl (by decide +kernel)
set_option maxRecDepth 65536 in
theorem w_c18 : (Jvm.Cond.code ({ cls := "java/lang/StringLatin1", name := "canEncode", desc := "(I)Z" } : Jvm.MethodName) jdk_43_method_4_code (1 : Nat) (Option.some Jvm.ClassFile.FieldType.boolean)).before args0 about1 = true := code_word (m := ⟨10, 2⟩) (meth := k10m2) (c := k10c2) (by decide +kernel) rfl rfl rfl (by decide +kernel)
set_option maxRecDepth 65536 in
theorem w_c19 : (Jvm.Cond.code ({ cls := "java/lang/Math", name := "max", desc := "(II)I" } : Jvm.MethodName) jdk_29_method_65_code (2 : Nat) (Option.some Jvm.ClassFile.FieldType.int)).before args0 about1 = true := code_word (m := ⟨11, 1⟩) (meth := k11m1) (c := k11c1) (by decide +kernel) rfl rfl rfl (by decide +kernel)
set_option maxRecDepth 65536 in
theorem w_c20 : (Jvm.Cond.code ({ cls := "java/lang/Math", name := "min", desc := "(II)I" } : Jvm.MethodName) jdk_29_method_69_code (2 : Nat) (Option.some Jvm.ClassFile.FieldType.int)).before args0 about1 = true := code_word (m := ⟨11, 2⟩) (meth := k11m2) (c := k11c2) (by decide +kernel) rfl rfl rfl (by decide +kernel)
set_option maxRecDepth 65536 in
theorem w_c21 : (Jvm.Cond.code ({ cls := "java/lang/StringLatin1", name := "indexOfChar", desc := "([BIII)I" } : Jvm.MethodName) jdk_43_method_23_code (6 : Nat) (Option.some Jvm.ClassFile.FieldType.int)).before args0 about1 = true := code_word (m := ⟨10, 4⟩) (meth := k10m4) (c := k10c4) (by decide +kernel) rfl rfl rfl (by decide +kernel)
set_option maxRecDepth 65536 in
theorem w_c22 : (Jvm.Cond.code ({ cls := "holdfast/HashSlot", name := "roomBeside", desc := "(Ljava/lang/String;)Z" } : Jvm.MethodName) prog_2_method_3_code (1 : Nat) (Option.some Jvm.ClassFile.FieldType.boolean)).before args0 about1 = true := code_word (m := ⟨9, 1⟩) (meth := k9m1) (c := k9c1) (by decide +kernel) rfl rfl rfl (by decide +kernel)
set_option maxRecDepth 65536 in
theorem w_c23 : (Jvm.Cond.code ({ cls := "java/lang/String", name := "isEmpty", desc := "()Z" } : Jvm.MethodName) jdk_42_method_55_code (1 : Nat) (Option.some Jvm.ClassFile.FieldType.boolean)).before args0 about1 = true := code_word (m := ⟨7, 4⟩) (meth := k7m4) (c := k7c4) (by decide +kernel) rfl rfl rfl (by decide +kernel)
set_option maxRecDepth 65536 in
theorem w_c24 : (Jvm.Cond.code ({ cls := "java/lang/StringBuilder", name := "<init>", desc := "()V" } : Jvm.MethodName) jdk_67_method_1_code (1 : Nat) (Option.none : Option Jvm.ClassFile.FieldType)).before args0 about1 = true := code_word (m := ⟨14, 0⟩) (meth := k14m0) (c := k14c0) (by decide +kernel) rfl rfl rfl (by decide +kernel)
set_option maxRecDepth 65536 in
theorem w_c25 : (Jvm.Cond.code ({ cls := "java/lang/AbstractStringBuilder", name := "<init>", desc := "(I)V" } : Jvm.MethodName) jdk_68_method_2_code (2 : Nat) (Option.none : Option Jvm.ClassFile.FieldType)).before args0 about1 = true := code_word (m := ⟨13, 1⟩) (meth := k13m1) (c := k13c1) (by decide +kernel) rfl rfl rfl (by decide +kernel)
set_option maxRecDepth 65536 in
theorem w_c26 : (Jvm.Cond.code ({ cls := "java/lang/StringBuilder", name := "append", desc := "(Ljava/lang/String;)Ljava/lang/StringBuilder;" } : Jvm.MethodName) jdk_67_method_7_code (2 : Nat) (Option.some (Jvm.ClassFile.FieldType.object "java/lang/StringBuilder"))).before args0 about1 = true := code_word (m := ⟨14, 1⟩) (meth := k14m1) (c := k14c1) (by decide +kernel) rfl rfl rfl (by decide +kernel)
set_option maxRecDepth 65536 in
theorem w_c27 : (Jvm.Cond.code ({ cls := "java/lang/AbstractStringBuilder", name := "append", desc := "(Ljava/lang/String;)Ljava/lang/AbstractStringBuilder;" } : Jvm.MethodName) jdk_68_method_22_code (3 : Nat) (Option.some (Jvm.ClassFile.FieldType.object "java/lang/AbstractStringBuilder"))).before args0 about1 = true := code_word (m := ⟨13, 4⟩) (meth := k13m4) (c := k13c4) (by decide +kernel) rfl rfl rfl (by decide +kernel)
set_option maxRecDepth 65536 in
theorem w_c28 : (Jvm.Cond.code ({ cls := "java/lang/AbstractStringBuilder", name := "ensureCapacityInternal", desc := "(I)V" } : Jvm.MethodName) jdk_68_method_9_code (3 : Nat) (Option.none : Option Jvm.ClassFile.FieldType)).before args0 about1 = true := code_word (m := ⟨13, 3⟩) (meth := k13m3) (c := k13c3) (by decide +kernel) rfl rfl rfl (by decide +kernel)
set_option maxRecDepth 65536 in
theorem w_c29 : (Jvm.Cond.code ({ cls := "java/lang/AbstractStringBuilder", name := "putStringAt", desc := "(ILjava/lang/String;)V" } : Jvm.MethodName) jdk_68_method_73_code (3 : Nat) (Option.none : Option Jvm.ClassFile.FieldType)).before args0 about1 = true := code_word (m := ⟨13, 8⟩) (meth := k13m8) (c := k13c8) (by decide +kernel) rfl rfl rfl (by decide +kernel)
set_option maxRecDepth 65536 in
theorem w_c30 : (Jvm.Cond.code ({ cls := "java/lang/AbstractStringBuilder", name := "inflateIfNeededFor", desc := "(Ljava/lang/String;)V" } : Jvm.MethodName) jdk_68_method_71_code (2 : Nat) (Option.none : Option Jvm.ClassFile.FieldType)).before args0 about1 = true := code_word (m := ⟨13, 7⟩) (meth := k13m7) (c := k13c7) (by decide +kernel) rfl rfl rfl (by decide +kernel)
set_option maxRecDepth 65536 in
theorem w_c31 : (Jvm.Cond.code ({ cls := "java/lang/String", name := "getBytes", desc := "([BIB)V" } : Jvm.MethodName) jdk_42_method_147_code (4 : Nat) (Option.none : Option Jvm.ClassFile.FieldType)).before args0 about1 = true := code_word (m := ⟨7, 9⟩) (meth := k7m9) (c := k7c9) (by decide +kernel) rfl rfl rfl (by decide +kernel)
set_option maxRecDepth 65536 in
theorem w_c32 : (Jvm.Cond.code ({ cls := "java/lang/StringBuilder", name := "toString", desc := "()Ljava/lang/String;" } : Jvm.MethodName) jdk_67_method_42_code (1 : Nat) (Option.some (Jvm.ClassFile.FieldType.object "java/lang/String"))).before args0 about1 = true := code_word (m := ⟨14, 2⟩) (meth := k14m2) (c := k14c2) (by decide +kernel) rfl rfl rfl (by decide +kernel)
set_option maxRecDepth 65536 in
theorem w_c33 : (Jvm.Cond.code ({ cls := "java/lang/String", name := "<init>", desc := "(Ljava/lang/StringBuilder;)V" } : Jvm.MethodName) jdk_42_method_53_code (2 : Nat) (Option.none : Option Jvm.ClassFile.FieldType)).before args0 about1 = true := code_word (m := ⟨7, 2⟩) (meth := k7m2) (c := k7c2) (by decide +kernel) rfl rfl rfl (by decide +kernel)
set_option maxRecDepth 65536 in
theorem w_c34 : (Jvm.Cond.code ({ cls := "java/lang/String", name := "<init>", desc := "(Ljava/lang/AbstractStringBuilder;Ljava/lang/Void;)V" } : Jvm.MethodName) jdk_42_method_150_code (5 : Nat) (Option.none : Option Jvm.ClassFile.FieldType)).before args0 about1 = true := code_word (m := ⟨7, 11⟩) (meth := k7m11) (c := k7c11) (by decide +kernel) rfl rfl rfl (by decide +kernel)
set_option maxRecDepth 65536 in
theorem w_c35 : (Jvm.Cond.code ({ cls := "java/lang/AbstractStringBuilder", name := "getValue", desc := "()[B" } : Jvm.MethodName) jdk_68_method_64_code (1 : Nat) (Option.some (Jvm.ClassFile.FieldType.array Jvm.ClassFile.FieldType.byte))).before args0 about1 = true := code_word (m := ⟨13, 5⟩) (meth := k13m5) (c := k13c5) (by decide +kernel) rfl rfl rfl (by decide +kernel)
set_option maxRecDepth 65536 in
theorem w_c36 : (Jvm.Cond.code ({ cls := "java/lang/StringBuilder", name := "length", desc := "()I" } : Jvm.MethodName) jdk_67_method_93_code (1 : Nat) (Option.some Jvm.ClassFile.FieldType.int)).before args0 about1 = true := code_word (m := ⟨14, 3⟩) (meth := k14m3) (c := k14c3) (by decide +kernel) rfl rfl rfl (by decide +kernel)
set_option maxRecDepth 65536 in
theorem w_c37 : (Jvm.Cond.code ({ cls := "java/lang/AbstractStringBuilder", name := "length", desc := "()I" } : Jvm.MethodName) jdk_68_method_6_code (1 : Nat) (Option.some Jvm.ClassFile.FieldType.int)).before args0 about1 = true := code_word (m := ⟨13, 2⟩) (meth := k13m2) (c := k13c2) (by decide +kernel) rfl rfl rfl (by decide +kernel)
set_option maxRecDepth 65536 in
theorem w_c38 : (Jvm.Cond.code ({ cls := "java/lang/AbstractStringBuilder", name := "isLatin1", desc := "()Z" } : Jvm.MethodName) jdk_68_method_68_code (1 : Nat) (Option.some Jvm.ClassFile.FieldType.boolean)).before args0 about1 = true := code_word (m := ⟨13, 6⟩) (meth := k13m6) (c := k13c6) (by decide +kernel) rfl rfl rfl (by decide +kernel)
set_option maxRecDepth 65536 in
theorem w_c39 : (Jvm.Cond.code ({ cls := "java/util/Arrays", name := "copyOfRange", desc := "([BII)[B" } : Jvm.MethodName) jdk_65_method_132_code (3 : Nat) (Option.some (Jvm.ClassFile.FieldType.array Jvm.ClassFile.FieldType.byte))).before args0 about1 = true := code_word (m := ⟨16, 2⟩) (meth := k16m2) (c := k16c2) (by decide +kernel) rfl rfl rfl (by decide +kernel)
set_option maxRecDepth 65536 in
theorem w_c40 : (Jvm.Cond.code ({ cls := "java/util/Arrays", name := "copyOfRangeByte", desc := "([BII)[B" } : Jvm.MethodName) jdk_65_method_133_code (5 : Nat) (Option.some (Jvm.ClassFile.FieldType.array Jvm.ClassFile.FieldType.byte))).before args0 about1 = true := code_word (m := ⟨16, 3⟩) (meth := k16m3) (c := k16c3) (by decide +kernel) rfl rfl rfl (by decide +kernel)
set_option maxRecDepth 65536 in
theorem w_c41 : (Jvm.Cond.code ({ cls := "java/util/Arrays", name := "checkLength", desc := "(II)V" } : Jvm.MethodName) jdk_65_method_131_code (2 : Nat) (Option.none : Option Jvm.ClassFile.FieldType)).before args0 about1 = true := code_word (m := ⟨16, 1⟩) (meth := k16m1) (c := k16c1) (by decide +kernel) rfl rfl rfl (by decide +kernel)
set_option maxRecDepth 65536 in
theorem w_c42 : (Jvm.Cond.code ({ cls := "holdfast/HashSlotBesidePinLaw", name := "at", desc := "(Ljava/lang/String;IIZI[C[C)Z" } : Jvm.MethodName) method_5_code (7 : Nat) (Option.some Jvm.ClassFile.FieldType.boolean)).before args0 about1 = true := code_word (m := ⟨1, 4⟩) (meth := k1m4) (c := k1c4) (by decide +kernel) rfl rfl rfl (by decide +kernel)
set_option maxRecDepth 65536 in
theorem w_c43 : (Jvm.Cond.code ({ cls := "java/lang/String", name := "charAt", desc := "(I)C" } : Jvm.MethodName) jdk_42_method_56_code (2 : Nat) (Option.some Jvm.ClassFile.FieldType.char)).before args0 about1 = true := code_word (m := ⟨7, 5⟩) (meth := k7m5) (c := k7c5) (by decide +kernel) rfl rfl rfl (by decide +kernel)
set_option maxRecDepth 65536 in
theorem w_c44 : (Jvm.Cond.code ({ cls := "java/lang/StringLatin1", name := "charAt", desc := "([BI)C" } : Jvm.MethodName) jdk_43_method_2_code (2 : Nat) (Option.some Jvm.ClassFile.FieldType.char)).before args0 about1 = true := code_word (m := ⟨10, 1⟩) (meth := k10m1) (c := k10c1) (by decide +kernel) rfl rfl rfl (by decide +kernel)
set_option maxRecDepth 65536 in
theorem w_c45 : (Jvm.Cond.code ({ cls := "java/lang/String", name := "checkIndex", desc := "(II)V" } : Jvm.MethodName) jdk_42_method_155_code (2 : Nat) (Option.none : Option Jvm.ClassFile.FieldType)).before args0 about1 = true := code_word (m := ⟨7, 15⟩) (meth := k7m15) (c := k7c15) (by decide +kernel) rfl rfl rfl (by decide +kernel)
set_option maxRecDepth 65536 in
theorem w_c46 : (Jvm.Cond.code ({ cls := "jdk/internal/util/Preconditions", name := "checkIndex", desc := "(IILjava/util/function/BiFunction;)I" } : Jvm.MethodName) jdk_41_method_11_code (3 : Nat) (Option.some Jvm.ClassFile.FieldType.int)).before args0 about1 = true := code_word (m := ⟨17, 1⟩) (meth := k17m1) (c := k17c1) (by decide +kernel) rfl rfl rfl (by decide +kernel)
set_option maxRecDepth 65536 in
theorem w_c47 : (Jvm.Cond.code ({ cls := "holdfast/HashSlotBesidePinLaw", name := "expected", desc := "(IZI[C[C)C" } : Jvm.MethodName) method_6_code (5 : Nat) (Option.some Jvm.ClassFile.FieldType.char)).before args0 about1 = true := code_word (m := ⟨1, 5⟩) (meth := k1m5) (c := k1c5) (by decide +kernel) rfl rfl rfl (by decide +kernel)
set_option maxRecDepth 65536 in
theorem w_c48 : (Jvm.Cond.code ({ cls := "java/lang/String", name := "substring", desc := "(II)Ljava/lang/String;" } : Jvm.MethodName) jdk_42_method_92_code (5 : Nat) (Option.some (Jvm.ClassFile.FieldType.object "java/lang/String"))).before args0 about1 = true := code_word (m := ⟨7, 8⟩) (meth := k7m8) (c := k7c8) (by decide +kernel) rfl rfl rfl (by decide +kernel)
set_option maxRecDepth 65536 in
theorem w_c49 : (Jvm.Cond.code ({ cls := "java/lang/String", name := "checkBoundsBeginEnd", desc := "(III)V" } : Jvm.MethodName) jdk_42_method_158_code (3 : Nat) (Option.none : Option Jvm.ClassFile.FieldType)).before args0 about1 = true := code_word (m := ⟨7, 16⟩) (meth := k7m16) (c := k7c16) (by decide +kernel) rfl rfl rfl (by decide +kernel)
set_option maxRecDepth 65536 in
theorem w_c50 : (Jvm.Cond.code ({ cls := "jdk/internal/util/Preconditions", name := "checkFromToIndex", desc := "(IIILjava/util/function/BiFunction;)I" } : Jvm.MethodName) jdk_41_method_12_code (4 : Nat) (Option.some Jvm.ClassFile.FieldType.int)).before args0 about1 = true := code_word (m := ⟨17, 2⟩) (meth := k17m2) (c := k17c2) (by decide +kernel) rfl rfl rfl (by decide +kernel)
set_option maxRecDepth 65536 in
theorem w_c51 : (Jvm.Cond.code ({ cls := "java/lang/StringLatin1", name := "newString", desc := "([BII)Ljava/lang/String;" } : Jvm.MethodName) jdk_43_method_47_code (3 : Nat) (Option.some (Jvm.ClassFile.FieldType.object "java/lang/String"))).before args0 about1 = true := code_word (m := ⟨10, 5⟩) (meth := k10m5) (c := k10c5) (by decide +kernel) rfl rfl rfl (by decide +kernel)
set_option maxRecDepth 65536 in
theorem w_c52 : (Jvm.Cond.code ({ cls := "java/lang/String", name := "<init>", desc := "([BB)V" } : Jvm.MethodName) jdk_42_method_151_code (3 : Nat) (Option.none : Option Jvm.ClassFile.FieldType)).before args0 about1 = true := code_word (m := ⟨7, 12⟩) (meth := k7m12) (c := k7c12) (by decide +kernel) rfl rfl rfl (by decide +kernel)
def codes1 : List Jvm.Cond := [Jvm.Cond.code x code maxLocals ret, Jvm.Cond.code ({ cls := "holdfast/HashSlotBesidePinLaw", name := "draw", desc := "(JI)C" } : Jvm.MethodName) method_3_code (5 : Nat) (Option.some Jvm.ClassFile.FieldType.char), Jvm.Cond.code ({ cls := "holdfast/HashSlotBesidePinLaw", name := "make", desc := "(ICCCC)Ljava/lang/String;" } : Jvm.MethodName) method_4_code (5 : Nat) (Option.some (Jvm.ClassFile.FieldType.object "java/lang/String")), Jvm.Cond.code ({ cls := "java/lang/String", name := "<init>", desc := "([C)V" } : Jvm.MethodName) jdk_42_method_3_code (2 : Nat) (Option.none : Option Jvm.ClassFile.FieldType), Jvm.Cond.code ({ cls := "java/lang/String", name := "<init>", desc := "([CIILjava/lang/Void;)V" } : Jvm.MethodName) jdk_42_method_149_code (6 : Nat) (Option.none : Option Jvm.ClassFile.FieldType), Jvm.Cond.code ({ cls := "java/lang/Object", name := "<init>", desc := "()V" } : Jvm.MethodName) object_method_1_code (1 : Nat) (Option.none : Option Jvm.ClassFile.FieldType), Jvm.Cond.code ({ cls := "java/lang/StringUTF16", name := "compress", desc := "([CII)[B" } : Jvm.MethodName) jdk_52_method_16_code (6 : Nat) (Option.some (Jvm.ClassFile.FieldType.array Jvm.ClassFile.FieldType.byte)), Jvm.Cond.code ({ cls := "java/lang/StringUTF16", name := "compress", desc := "([CI[BII)I" } : Jvm.MethodName) jdk_52_method_21_code (7 : Nat) (Option.some Jvm.ClassFile.FieldType.int), Jvm.Cond.code ({ cls := "java/lang/StringUTF16", name := "coderFromArrayLen", desc := "([BI)B" } : Jvm.MethodName) jdk_52_method_15_code (2 : Nat) (Option.some Jvm.ClassFile.FieldType.byte), Jvm.Cond.code ({ cls := "holdfast/HashSlot", name := "beside", desc := "(Ljava/lang/String;Ljava/lang/String;)Ljava/lang/String;" } : Jvm.MethodName) prog_2_method_5_code (2 : Nat) (Option.some (Jvm.ClassFile.FieldType.object "java/lang/String")), Jvm.Cond.code ({ cls := "holdfast/HashSlot", name := "tagged", desc := "(Ljava/lang/String;)Z" } : Jvm.MethodName) prog_2_method_6_code (1 : Nat) (Option.some Jvm.ClassFile.FieldType.boolean), Jvm.Cond.code ({ cls := "holdfast/HashSlot", name := "tag", desc := "(Ljava/lang/String;)Ljava/lang/String;" } : Jvm.MethodName) prog_2_method_8_code (3 : Nat) (Option.some (Jvm.ClassFile.FieldType.object "java/lang/String")), Jvm.Cond.code ({ cls := "java/lang/String", name := "indexOf", desc := "(I)I" } : Jvm.MethodName) jdk_42_method_79_code (2 : Nat) (Option.some Jvm.ClassFile.FieldType.int), Jvm.Cond.code ({ cls := "java/lang/String", name := "indexOf", desc := "(II)I" } : Jvm.MethodName) jdk_42_method_80_code (3 : Nat) (Option.some Jvm.ClassFile.FieldType.int), Jvm.Cond.code ({ cls := "java/lang/String", name := "isLatin1", desc := "()Z" } : Jvm.MethodName) jdk_42_method_154_code (1 : Nat) (Option.some Jvm.ClassFile.FieldType.boolean), Jvm.Cond.code ({ cls := "java/lang/String", name := "length", desc := "()I" } : Jvm.MethodName) jdk_42_method_54_code (1 : Nat) (Option.some Jvm.ClassFile.FieldType.int), Jvm.Cond.code ({ cls := "java/lang/String", name := "coder", desc := "()B" } : Jvm.MethodName) jdk_42_method_152_code (1 : Nat) (Option.some Jvm.ClassFile.FieldType.byte), Jvm.Cond.code ({ cls := "java/lang/StringLatin1", name := "indexOf", desc := "([BIII)I" } : Jvm.MethodName) jdk_43_method_22_code (4 : Nat) (Option.some Jvm.ClassFile.FieldType.int), Jvm.Cond.code ({ cls := "java/lang/StringLatin1", name := "canEncode", desc := "(I)Z" } : Jvm.MethodName) jdk_43_method_4_code (1 : Nat) (Option.some Jvm.ClassFile.FieldType.boolean), Jvm.Cond.code ({ cls := "java/lang/Math", name := "max", desc := "(II)I" } : Jvm.MethodName) jdk_29_method_65_code (2 : Nat) (Option.some Jvm.ClassFile.FieldType.int), Jvm.Cond.code ({ cls := "java/lang/Math", name := "min", desc := "(II)I" } : Jvm.MethodName) jdk_29_method_69_code (2 : Nat) (Option.some Jvm.ClassFile.FieldType.int), Jvm.Cond.code ({ cls := "java/lang/StringLatin1", name := "indexOfChar", desc := "([BIII)I" } : Jvm.MethodName) jdk_43_method_23_code (6 : Nat) (Option.some Jvm.ClassFile.FieldType.int), Jvm.Cond.code ({ cls := "holdfast/HashSlot", name := "roomBeside", desc := "(Ljava/lang/String;)Z" } : Jvm.MethodName) prog_2_method_3_code (1 : Nat) (Option.some Jvm.ClassFile.FieldType.boolean), Jvm.Cond.code ({ cls := "java/lang/String", name := "isEmpty", desc := "()Z" } : Jvm.MethodName) jdk_42_method_55_code (1 : Nat) (Option.some Jvm.ClassFile.FieldType.boolean), Jvm.Cond.code ({ cls := "java/lang/StringBuilder", name := "<init>", desc := "()V" } : Jvm.MethodName) jdk_67_method_1_code (1 : Nat) (Option.none : Option Jvm.ClassFile.FieldType), Jvm.Cond.code ({ cls := "java/lang/AbstractStringBuilder", name := "<init>", desc := "(I)V" } : Jvm.MethodName) jdk_68_method_2_code (2 : Nat) (Option.none : Option Jvm.ClassFile.FieldType), Jvm.Cond.code ({ cls := "java/lang/StringBuilder", name := "append", desc := "(Ljava/lang/String;)Ljava/lang/StringBuilder;" } : Jvm.MethodName) jdk_67_method_7_code (2 : Nat) (Option.some (Jvm.ClassFile.FieldType.object "java/lang/StringBuilder")), Jvm.Cond.code ({ cls := "java/lang/AbstractStringBuilder", name := "append", desc := "(Ljava/lang/String;)Ljava/lang/AbstractStringBuilder;" } : Jvm.MethodName) jdk_68_method_22_code (3 : Nat) (Option.some (Jvm.ClassFile.FieldType.object "java/lang/AbstractStringBuilder")), Jvm.Cond.code ({ cls := "java/lang/AbstractStringBuilder", name := "ensureCapacityInternal", desc := "(I)V" } : Jvm.MethodName) jdk_68_method_9_code (3 : Nat) (Option.none : Option Jvm.ClassFile.FieldType), Jvm.Cond.code ({ cls := "java/lang/AbstractStringBuilder", name := "putStringAt", desc := "(ILjava/lang/String;)V" } : Jvm.MethodName) jdk_68_method_73_code (3 : Nat) (Option.none : Option Jvm.ClassFile.FieldType), Jvm.Cond.code ({ cls := "java/lang/AbstractStringBuilder", name := "inflateIfNeededFor", desc := "(Ljava/lang/String;)V" } : Jvm.MethodName) jdk_68_method_71_code (2 : Nat) (Option.none : Option Jvm.ClassFile.FieldType), Jvm.Cond.code ({ cls := "java/lang/String", name := "getBytes", desc := "([BIB)V" } : Jvm.MethodName) jdk_42_method_147_code (4 : Nat) (Option.none : Option Jvm.ClassFile.FieldType), Jvm.Cond.code ({ cls := "java/lang/StringBuilder", name := "toString", desc := "()Ljava/lang/String;" } : Jvm.MethodName) jdk_67_method_42_code (1 : Nat) (Option.some (Jvm.ClassFile.FieldType.object "java/lang/String")), Jvm.Cond.code ({ cls := "java/lang/String", name := "<init>", desc := "(Ljava/lang/StringBuilder;)V" } : Jvm.MethodName) jdk_42_method_53_code (2 : Nat) (Option.none : Option Jvm.ClassFile.FieldType), Jvm.Cond.code ({ cls := "java/lang/String", name := "<init>", desc := "(Ljava/lang/AbstractStringBuilder;Ljava/lang/Void;)V" } : Jvm.MethodName) jdk_42_method_150_code (5 : Nat) (Option.none : Option Jvm.ClassFile.FieldType), Jvm.Cond.code ({ cls := "java/lang/AbstractStringBuilder", name := "getValue", desc := "()[B" } : Jvm.MethodName) jdk_68_method_64_code (1 : Nat) (Option.some (Jvm.ClassFile.FieldType.array Jvm.ClassFile.FieldType.byte)), Jvm.Cond.code ({ cls := "java/lang/StringBuilder", name := "length", desc := "()I" } : Jvm.MethodName) jdk_67_method_93_code (1 : Nat) (Option.some Jvm.ClassFile.FieldType.int), Jvm.Cond.code ({ cls := "java/lang/AbstractStringBuilder", name := "length", desc := "()I" } : Jvm.MethodName) jdk_68_method_6_code (1 : Nat) (Option.some Jvm.ClassFile.FieldType.int), Jvm.Cond.code ({ cls := "java/lang/AbstractStringBuilder", name := "isLatin1", desc := "()Z" } : Jvm.MethodName) jdk_68_method_68_code (1 : Nat) (Option.some Jvm.ClassFile.FieldType.boolean), Jvm.Cond.code ({ cls := "java/util/Arrays", name := "copyOfRange", desc := "([BII)[B" } : Jvm.MethodName) jdk_65_method_132_code (3 : Nat) (Option.some (Jvm.ClassFile.FieldType.array Jvm.ClassFile.FieldType.byte)), Jvm.Cond.code ({ cls := "java/util/Arrays", name := "copyOfRangeByte", desc := "([BII)[B" } : Jvm.MethodName) jdk_65_method_133_code (5 : Nat) (Option.some (Jvm.ClassFile.FieldType.array Jvm.ClassFile.FieldType.byte)), Jvm.Cond.code ({ cls := "java/util/Arrays", name := "checkLength", desc := "(II)V" } : Jvm.MethodName) jdk_65_method_131_code (2 : Nat) (Option.none : Option Jvm.ClassFile.FieldType), Jvm.Cond.code ({ cls := "holdfast/HashSlotBesidePinLaw", name := "at", desc := "(Ljava/lang/String;IIZI[C[C)Z" } : Jvm.MethodName) method_5_code (7 : Nat) (Option.some Jvm.ClassFile.FieldType.boolean), Jvm.Cond.code ({ cls := "java/lang/String", name := "charAt", desc := "(I)C" } : Jvm.MethodName) jdk_42_method_56_code (2 : Nat) (Option.some Jvm.ClassFile.FieldType.char), Jvm.Cond.code ({ cls := "java/lang/StringLatin1", name := "charAt", desc := "([BI)C" } : Jvm.MethodName) jdk_43_method_2_code (2 : Nat) (Option.some Jvm.ClassFile.FieldType.char), Jvm.Cond.code ({ cls := "java/lang/String", name := "checkIndex", desc := "(II)V" } : Jvm.MethodName) jdk_42_method_155_code (2 : Nat) (Option.none : Option Jvm.ClassFile.FieldType), Jvm.Cond.code ({ cls := "jdk/internal/util/Preconditions", name := "checkIndex", desc := "(IILjava/util/function/BiFunction;)I" } : Jvm.MethodName) jdk_41_method_11_code (3 : Nat) (Option.some Jvm.ClassFile.FieldType.int), Jvm.Cond.code ({ cls := "holdfast/HashSlotBesidePinLaw", name := "expected", desc := "(IZI[C[C)C" } : Jvm.MethodName) method_6_code (5 : Nat) (Option.some Jvm.ClassFile.FieldType.char), Jvm.Cond.code ({ cls := "java/lang/String", name := "substring", desc := "(II)Ljava/lang/String;" } : Jvm.MethodName) jdk_42_method_92_code (5 : Nat) (Option.some (Jvm.ClassFile.FieldType.object "java/lang/String")), Jvm.Cond.code ({ cls := "java/lang/String", name := "checkBoundsBeginEnd", desc := "(III)V" } : Jvm.MethodName) jdk_42_method_158_code (3 : Nat) (Option.none : Option Jvm.ClassFile.FieldType), Jvm.Cond.code ({ cls := "jdk/internal/util/Preconditions", name := "checkFromToIndex", desc := "(IIILjava/util/function/BiFunction;)I" } : Jvm.MethodName) jdk_41_method_12_code (4 : Nat) (Option.some Jvm.ClassFile.FieldType.int), Jvm.Cond.code ({ cls := "java/lang/StringLatin1", name := "newString", desc := "([BII)Ljava/lang/String;" } : Jvm.MethodName) jdk_43_method_47_code (3 : Nat) (Option.some (Jvm.ClassFile.FieldType.object "java/lang/String")), Jvm.Cond.code ({ cls := "java/lang/String", name := "<init>", desc := "([BB)V" } : Jvm.MethodName) jdk_42_method_151_code (3 : Nat) (Option.none : Option Jvm.ClassFile.FieldType)]
set_option maxRecDepth 65536 in
theorem codes_eq : words1.filter isCode = codes1 := rfl
theorem w_codes : ∀ c ∈ words1.filter isCode, c.before args0 about1 = true := by
  rw [codes_eq]
  intro c hc
  simp only [codes1, List.mem_cons, List.not_mem_nil, or_false] at hc
  rcases hc with rfl | rfl | rfl | rfl | rfl | rfl | rfl | rfl | rfl | rfl | rfl | rfl | rfl | rfl | rfl | rfl | rfl | rfl | rfl | rfl | rfl | rfl | rfl | rfl | rfl | rfl | rfl | rfl | rfl | rfl | rfl | rfl | rfl | rfl | rfl | rfl | rfl | rfl | rfl | rfl | rfl | rfl | rfl | rfl | rfl | rfl | rfl | rfl | rfl | rfl | rfl | rfl | rfl
  · exact w_c0
  · exact w_c1
  · exact w_c2
  · exact w_c3
  · exact w_c4
  · exact w_c5
  · exact w_c6
  · exact w_c7
  · exact w_c8
  · exact w_c9
  · exact w_c10
  · exact w_c11
  · exact w_c12
  · exact w_c13
  · exact w_c14
  · exact w_c15
  · exact w_c16
  · exact w_c17
  · exact w_c18
  · exact w_c19
  · exact w_c20
  · exact w_c21
  · exact w_c22
  · exact w_c23
  · exact w_c24
  · exact w_c25
  · exact w_c26
  · exact w_c27
  · exact w_c28
  · exact w_c29
  · exact w_c30
  · exact w_c31
  · exact w_c32
  · exact w_c33
  · exact w_c34
  · exact w_c35
  · exact w_c36
  · exact w_c37
  · exact w_c38
  · exact w_c39
  · exact w_c40
  · exact w_c41
  · exact w_c42
  · exact w_c43
  · exact w_c44
  · exact w_c45
  · exact w_c46
  · exact w_c47
  · exact w_c48
  · exact w_c49
  · exact w_c50
  · exact w_c51
  · exact w_c52
set_option maxRecDepth 65536 in
theorem w_t1 : (words1.take 24).all (fun c => isCode c || c.before args0 about1) = true := by decide +kernel
set_option maxRecDepth 65536 in
theorem w_t2 : ((words1.drop 24).take 24).all (fun c => isCode c || c.before args0 about1) = true := by decide +kernel
set_option maxRecDepth 65536 in
theorem w_t3 : (((words1.drop 24).drop 24).take 24).all (fun c => isCode c || c.before args0 about1) = true := by decide +kernel
set_option maxRecDepth 65536 in
theorem w_t4 : ((((words1.drop 24).drop 24).drop 24).take 24).all (fun c => isCode c || c.before args0 about1) = true := by decide +kernel
set_option maxRecDepth 65536 in
theorem w_t5 : (((((words1.drop 24).drop 24).drop 24).drop 24).take 24).all (fun c => isCode c || c.before args0 about1) = true := by decide +kernel
set_option maxRecDepth 65536 in
theorem w_t6 : ((((((words1.drop 24).drop 24).drop 24).drop 24).drop 24).take 24).all (fun c => isCode c || c.before args0 about1) = true := by decide +kernel
set_option maxRecDepth 65536 in
theorem w_t7 : (((((((words1.drop 24).drop 24).drop 24).drop 24).drop 24).drop 24).take 24).all (fun c => isCode c || c.before args0 about1) = true := by decide +kernel
set_option maxRecDepth 65536 in
theorem w_t8 : ((((((((words1.drop 24).drop 24).drop 24).drop 24).drop 24).drop 24).drop 24).take 24).all (fun c => isCode c || c.before args0 about1) = true := by decide +kernel
set_option maxRecDepth 65536 in
theorem w_t9 : (((((((((words1.drop 24).drop 24).drop 24).drop 24).drop 24).drop 24).drop 24).drop 24).take 24).all (fun c => isCode c || c.before args0 about1) = true := by decide +kernel
set_option maxRecDepth 65536 in
theorem w_t10 : ((((((((((words1.drop 24).drop 24).drop 24).drop 24).drop 24).drop 24).drop 24).drop 24).drop 24).take 24).all (fun c => isCode c || c.before args0 about1) = true := by decide +kernel
set_option maxRecDepth 65536 in
theorem w_t11 : ((((((((((words1.drop 24).drop 24).drop 24).drop 24).drop 24).drop 24).drop 24).drop 24).drop 24).drop 24).all (fun c => isCode c || c.before args0 about1) = true := by decide +kernel
theorem w_tables : (allAtoms (Jvm.Cond.code x code maxLocals ret :: tables_1)).before args0 about1 = true := by
  rw [allAtoms_all]
  show words1.all (fun c => c.before args0 about1) = true
  refine all_split ?_ w_codes
  rw [← List.take_append_drop 24 words1, List.all_append, w_t1, ← List.take_append_drop 24 (words1.drop 24), List.all_append, w_t2, ← List.take_append_drop 24 ((words1.drop 24).drop 24), List.all_append, w_t3, ← List.take_append_drop 24 (((words1.drop 24).drop 24).drop 24), List.all_append, w_t4, ← List.take_append_drop 24 ((((words1.drop 24).drop 24).drop 24).drop 24), List.all_append, w_t5, ← List.take_append_drop 24 (((((words1.drop 24).drop 24).drop 24).drop 24).drop 24), List.all_append, w_t6, ← List.take_append_drop 24 ((((((words1.drop 24).drop 24).drop 24).drop 24).drop 24).drop 24), List.all_append, w_t7, ← List.take_append_drop 24 (((((((words1.drop 24).drop 24).drop 24).drop 24).drop 24).drop 24).drop 24), List.all_append, w_t8, ← List.take_append_drop 24 ((((((((words1.drop 24).drop 24).drop 24).drop 24).drop 24).drop 24).drop 24).drop 24), List.all_append, w_t9, ← List.take_append_drop 24 (((((((((words1.drop 24).drop 24).drop 24).drop 24).drop 24).drop 24).drop 24).drop 24).drop 24), List.all_append, w_t10, w_t11]
  rfl
set_option maxRecDepth 65536 in
theorem w_rest : rest_1_c.before args0 about1 = true := by decide +kernel
set_option maxRecDepth 65536 in
theorem w_case : (Jvm.Cond.and given_1 narrow_1).before args0 about1 = true := by decide +kernel
set_option maxRecDepth 65536 in
theorem w_consts : constsHeld consts_1 about1 := Jvm.Lit.constsHeldB_iff.mp (by decide +kernel)
theorem w_applies : (headSpec (Jvm.Cond.code x code maxLocals ret :: tables_1) room_1).applies x e0.platform about1 = true :=
  (Spec.applies_iff w_frames).mpr ⟨w_running, w_runnable, w_alone, w_named, w_hears, w_ripe, w_room, w_tables⟩
theorem atStart : AtStart classFile x code maxLocals ret World_1 tables_1 room_1 Calls_1 rest_1 Pre_1 launch0 p0 e0 about1 theMethod args0 below0 :=
  ⟨lists_1, trivial, launch0.admits_env _ _ _, launch0.least_env, fairChoices_fair.cas, fairChoices_fair.clock, w_frames, w_args, w_heap, w_applies, ⟨w_consts, trivial⟩, w_rest, w_case⟩
end start1
theorem witness_1 : WitnessClaimed_1 := ⟨start1.p0, start1.e0, start1.about1, start1.theMethod, start1.args0, start1.below0, start1.atStart⟩
end Jvm.Pilot.@@N@@
