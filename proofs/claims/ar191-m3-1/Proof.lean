import JvmDerived
import JvmDerived.Pilot.@@N@@Statement
import JvmDerived.Pilot.@@N@@Code
set_option linter.unusedVariables false
set_option linter.unusedSimpArgs false
namespace Jvm.Own
open Jvm Jvm.ClassFile Sem Op Lib Jvm.Free Jvm.Stand Jvm.LawKit Jvm.RoadKit Bundle
/-! A small calculus on the road kit: Go says that from here the body comes to its end. -/
section Calc
variable {wd : Bool} {Z : State} {a0 : Array Value} {EL : List (String × Nat)} {p : Program} {l : Launch} {e : Env} {R : Room} {s : State} {m : MethodId} {args : Array Value} {below : List Frame} {meth : Method} {c : Code}
  {n0 C N : Nat} {Q : Option Value → Heap → Prop} {vm : Vm} {h : Heap} {cells slots : Nat} {g : JFrame} {own : String} {bytes : ByteArray} {ml : Nat} {ret : Option FieldType} {nm : String}
/-- what is known of the body walked -/
def Ctx (Z : State) (a0 : Array Value) (EL : List (String × Nat)) (p : Program) (m : MethodId) (meth : Method) (c : Code) (own : String) (bytes : ByteArray) (ml : Nat) (ret : Option FieldType) (nm : String) : Prop :=
  p.tables.exec = Jvm.exec ∧ c.code = bytes ∧ c.maxLocals = ml ∧ meth.sig.returnType = ret ∧ meth.locks = false ∧ Z.vm.findClass own = some m.cls ∧ meth.name = nm ∧ EW Z a0 EL
/-- the tables at hand -/
def Wt (wd : Bool) (Z : State) (EL : List (String × Nat)) (s : State) (vm : Vm) (h : Heap) : Prop :=
  Z.Warmed39 vm ∧ (∃ k0, s.Since vm k0 ∧ k0 ≤ h.size) ∧ CHr Z EL s.vm s.heap vm h ∧ (wd = false → vm = s.vm ∧ EL = [])
def Fin (wd : Bool) (Z : State) (EL : List (String × Nat)) (n0 C N : Nat) (Q : Option Value → Heap → Prop) (s : State) (o : Outcome) (t : State) : Prop :=
  ∃ v L, o = .returned v ∧ (Q v t.heap ∧ Fr n0 L) ∧ CHr Z EL s.vm s.heap t.vm t.heap ∧ ReturnedEndW s o t L C N ∧ (wd = false → FrameEnd s o t L C N)
def Go (wd : Bool) (Z : State) (EL : List (String × Nat)) (p : Program) (l : Launch) (e : Env) (R : Room) (s : State) (m : MethodId) (args : Array Value) (below : List Frame) (meth : Method) (c : Code)
    (n0 C N : Nat) (Q : Option Value → Heap → Prop) (vm : Vm) (h : Heap) (cells slots : Nat) (g : JFrame) : Prop :=
  Wt wd Z EL s vm h → ∀ (T : State) (locs : List Loc), Stand p l e R (s.setVm vm) m args below meth c T locs cells slots → T.heap = h → Fr n0 locs →
    ∃ s₂ o, Steps p.tables e below (T.setTop g) s₂ ∧ s₂.status = .running ∧ Ended s₂ below o ∧ Fin wd Z EL n0 C N Q s o s₂
theorem Ctx.fc (B : Ctx Z a0 EL p m meth c own bytes ml ret nm) (hZ : Z.Warmed39 vm) : (s.setVm vm).vm.findClass own = some m.cls := by
  rw [show (s.setVm vm).vm = vm from rfl, hZ.alike.findClass]; exact B.2.2.2.2.2.1
theorem Ctx.x (B : Ctx Z a0 EL p m meth c own bytes ml ret nm) : p.tables.exec = Jvm.exec := B.1
theorem Ctx.d (B : Ctx Z a0 EL p m meth c own bytes ml ret nm) {pc : Nat} {r : Except DecodeError (Instr × Nat)} (q : decode bytes pc = r) : decode c.code pc = r := B.2.1 ▸ q
theorem nos {x : Addr} : Safe Z [] vm h x := fun B => by obtain ⟨p, hp, -⟩ := B; cases hp
/-- one plain step -/
theorem gs (g' : JFrame) (hs : ∀ T, At T m c below → ∀ t, Steps p.tables e below (T.setTop g') t → Steps p.tables e below (T.setTop g) t)
    (k : Go wd Z EL p l e R s m args below meth c n0 C N Q vm h cells slots g') : Go wd Z EL p l e R s m args below meth c n0 C N Q vm h cells slots g := by
  intro W T locs X eT F
  obtain ⟨s₂, o, h1, r⟩ := k W T locs X eT F
  exact ⟨s₂, o, hs T X.here _ h1, r⟩
theorem gj (g' : JFrame) (k1 : Go wd Z EL p l e R s m args below meth c n0 C N Q vm h cells slots g') (k : Go wd Z EL p l e R s m args below meth c n0 C N Q vm h cells slots g' → Go wd Z EL p l e R s m args below meth c n0 C N Q vm h cells slots g) :
    Go wd Z EL p l e R s m args below meth c n0 C N Q vm h cells slots g := k k1
theorem gm {cells' slots' : Nat} (hc : cells ≤ cells') (hl : slots ≤ slots') (k : Go wd Z EL p l e R s m args below meth c n0 C N Q vm h cells' slots' g) : Go wd Z EL p l e R s m args below meth c n0 C N Q vm h cells slots g :=
  fun W T locs X eT F => k W T locs (X.more hc hl) eT F
/-- a step that leaves the heap, and may warm the tables -/
theorem g_same {g' : JFrame} (hs : ∀ T locs, Z.Warmed39 vm → Stand p l e R (s.setVm vm) m args below meth c T locs cells slots → T.heap = h → ∃ T', Stand p l e R (s.setVm vm) m args below meth c T' locs cells slots ∧ T'.heap = h ∧ ∀ target, Steps p.tables e below (T'.setTop g') target → Steps p.tables e below (T.setTop g) target)
    (k : Go wd Z EL p l e R s m args below meth c n0 C N Q vm h cells slots g') : Go wd Z EL p l e R s m args below meth c n0 C N Q vm h cells slots g := by
  intro W T locs X eT F
  obtain ⟨T', X', eT', st⟩ := hs T locs W.1 X eT
  obtain ⟨s₂, o, h1, r⟩ := k W T' locs X' eT' F
  exact ⟨s₂, o, st _ h1, r⟩
theorem Wt.ext {h' : Heap} (W : Wt wd Z EL s vm h) (E : Ext h h') : Wt wd Z EL s vm h' := by
  obtain ⟨h1, ⟨k0, h2, h3⟩, h4, h5⟩ := W
  exact ⟨h1, ⟨k0, h2, Nat.le_trans h3 E.1⟩, h4.trans (CHr.ext E h4.1), h5⟩
theorem Wt.wr {h' : Heap} {a : Addr} {sl : Nat} {v : Value} (W : Wt wd Z EL s vm h) (S : Safe Z EL vm h a) (E : Wr h h' a sl v) : Wt wd Z EL s vm h' := by
  obtain ⟨h1, ⟨k0, h2, h3⟩, h4, h5⟩ := W
  exact ⟨h1, ⟨k0, h2, by rw [E.size]; exact h3⟩, h4.trans (CHr.wr E S h4.1), h5⟩
theorem Wt.keep {h' : Heap} {ws : List Addr} (W : Wt wd Z EL s vm h) (S : ∀ x ∈ ws, Safe Z EL vm h x) (K : Keep h h' ws) : Wt wd Z EL s vm h' := by
  obtain ⟨h1, ⟨k0, h2, h3⟩, h4, h5⟩ := W
  exact ⟨h1, ⟨k0, h2, Nat.le_trans h3 K.1⟩, h4.trans (CHr.keep K S h4.1), h5⟩
/-- a step that makes a cell -/
theorem g_ext {cells' slots' : Nat} {P : Heap → Prop} {G : JFrame} (hs : ∀ T locs, Z.Warmed39 vm → Stand p l e R (s.setVm vm) m args below meth c T locs cells slots → T.heap = h → ∃ T' h', Stand p l e R (s.setVm vm) m args below meth c T' locs cells' slots' ∧ T'.heap = h' ∧ Ext h h' ∧ P h' ∧ ∀ target, Steps p.tables e below (T'.setTop G) target → Steps p.tables e below (T.setTop g) target)
    (k : ∀ h', Ext h h' → P h' → Go wd Z EL p l e R s m args below meth c n0 C N Q vm h' cells' slots' G) : Go wd Z EL p l e R s m args below meth c n0 C N Q vm h cells slots g := by
  intro W T locs X eT F
  obtain ⟨T', h', X', eT', E, hP, st⟩ := hs T locs W.1 X eT
  obtain ⟨s₂, o, h1, r⟩ := k h' E hP (W.ext E) T' locs X' eT' F
  exact ⟨s₂, o, st _ h1, r⟩
/-- a step that writes one place -/
theorem g_wr {a : Addr} {sl : Nat} {v : Value} {G : JFrame} (hs : ∀ T locs, Z.Warmed39 vm → Stand p l e R (s.setVm vm) m args below meth c T locs cells slots → T.heap = h → ∃ T' h', Stand p l e R (s.setVm vm) m args below meth c T' (locs ++ [⟨a, sl⟩]) cells slots ∧ T'.heap = h' ∧ Wr h h' a sl v ∧ ∀ target, Steps p.tables e below (T'.setTop G) target → Steps p.tables e below (T.setTop g) target)
    (S : Safe Z EL vm h a) (q : n0 ≤ a) (k : ∀ h', Wr h h' a sl v → Go wd Z EL p l e R s m args below meth c n0 C N Q vm h' cells slots G) : Go wd Z EL p l e R s m args below meth c n0 C N Q vm h cells slots g := by
  intro W T locs X eT F
  obtain ⟨T', h', X', eT', E, st⟩ := hs T locs W.1 X eT
  obtain ⟨s₂, o, h1, r⟩ := k h' E (W.wr S E) T' _ X' eT' (Fr.snoc X' F q)
  exact ⟨s₂, o, st _ h1, r⟩
theorem gjA {α : Type} (F : α → JFrame) (P : α → Prop) (k1 : ∀ x, P x → Go wd Z EL p l e R s m args below meth c n0 C N Q vm h cells slots (F x)) (k : (∀ x, P x → Go wd Z EL p l e R s m args below meth c n0 C N Q vm h cells slots (F x)) → Go wd Z EL p l e R s m args below meth c n0 C N Q vm h cells slots g) :
    Go wd Z EL p l e R s m args below meth c n0 C N Q vm h cells slots g := k k1
theorem gjA3 {α β γ : Type} (F : α → β → γ → JFrame) (P : α → β → γ → Prop) (k1 : ∀ x y z, P x y z → Go wd Z EL p l e R s m args below meth c n0 C N Q vm h cells slots (F x y z)) (k : (∀ x y z, P x y z → Go wd Z EL p l e R s m args below meth c n0 C N Q vm h cells slots (F x y z)) → Go wd Z EL p l e R s m args below meth c n0 C N Q vm h cells slots g) :
    Go wd Z EL p l e R s m args below meth c n0 C N Q vm h cells slots g := k k1
theorem g_wt (k : Wt wd Z EL s vm h → Go wd Z EL p l e R s m args below meth c n0 C N Q vm h cells slots g) : Go wd Z EL p l e R s m args below meth c n0 C N Q vm h cells slots g := fun W => k W W
variable {pc q : Nat} {Ls : Array Slot} {st : List Value}
theorem g_newO {K : String} {index n : Nat} (B : Ctx Z a0 EL p m meth c own bytes ml ret nm) (w : (Cond.classLink own index K).before a0 Z = true) (wi : (Cond.instantiable K n).before a0 Z = true) (wz : (Cond.initialized K).before a0 Z = true)
    (hd : decode bytes pc = .ok (.new index, 3)) (hc : cells + 1 ≤ R.cells) (hl : slots + n ≤ R.slots) (hq : pc + 3 = q)
    (k : ∀ (h' : Heap) (a : Addr), @Eq Nat a h.size → Ext h h' → Safe Z EL vm h' a → Exa Z h' a K → (∀ {O nm d : String} {ty : FieldType}, Laid Z a0 K O nm d → parseFieldDescriptor d = some ty → Fld Z h' a O nm d (defaultValue ty)) →
      Go wd Z EL p l e R s m args below meth c n0 C N Q vm h' (cells + 1) (slots + n) (mkF m q Ls (.ref a :: st))) :
    Go wd Z EL p l e R s m args below meth c n0 C N Q vm h cells slots (mkF m pc Ls st) := by
  subst hq
  intro W
  refine g_ext (cells' := cells + 1) (slots' := slots + n) (G := mkF m (pc + 3) Ls (.ref h.size :: st)) (P := fun h' => Exa Z h' h.size K ∧ (∀ {O nm d : String} {ty : FieldType}, Laid Z a0 K O nm d → parseFieldDescriptor d = some ty → Fld Z h' h.size O nm d (defaultValue ty))) (fun T locs hZ X eT => ?_) (fun h' E P => k h' h.size rfl E (Safe.ext E W.2.2.1.1 (Safe.new (Nat.le_refl _))) P.1 P.2) W
  obtain ⟨T', h', X', e', E', A', D', -, st'⟩ := newO X B.1 (show Z.Warmed39 (s.setVm vm).vm from hZ) (B.fc hZ) w wi wz eT (g := mkF m pc Ls st) rfl (B.d hd) hc hl
  exact ⟨T', h', X', e', E', ⟨A', D'⟩, st'⟩
theorem g_newP {aty : ArrayType} {n : Int32} (B : Ctx Z a0 EL p m meth c own bytes ml ret nm) (w : (Cond.arrayClass (newarray.typeOf aty)).before a0 Z = true)
    (hd : decode bytes pc = .ok (.newarray aty, 2)) (hn : ¬ n < 0) {cap : Nat} (hcap : n.toNatClampNeg ≤ cap) (hb : cap * 8 ≤ 536870912) (hc : cells + 1 ≤ R.cells) (hl : slots + cap ≤ R.slots) (hq : pc + 2 = q)
    (k : ∀ (h' : Heap) (a : Addr) (kA : ClassId), @Eq Nat a h.size → Ext h h' → Safe Z EL vm h' a → Arv Z h' a kA (newarray.typeOf aty) n (List.replicate n.toNatClampNeg (defaultValue (newarray.typeOf aty))) (defaultValue (newarray.typeOf aty)) →
      Go wd Z EL p l e R s m args below meth c n0 C N Q vm h' (cells + 1) (slots + cap) (mkF m q Ls (.ref a :: st))) :
    Go wd Z EL p l e R s m args below meth c n0 C N Q vm h cells slots (mkF m pc Ls (.int n :: st)) := by
  subst hq
  intro W
  refine g_ext (cells' := cells + 1) (slots' := slots + cap) (G := mkF m (pc + 2) Ls (.ref h.size :: st)) (P := fun h' => ∃ kA, Arr Z h' h.size (newA kA (newarray.typeOf aty) n) (newarray.typeOf aty)) (fun T locs hZ X eT => ?_) (fun h' E P => ?_) W
  · obtain ⟨T', h', kA, X', e', E', A', st'⟩ := newP X B.1 (show Z.Warmed39 (s.setVm vm).vm from hZ) w eT (g := mkF m pc Ls (.int n :: st)) rfl (B.d hd) rfl hn hcap hb hc hl
    exact ⟨T', h', X', e', E', ⟨kA, A'⟩, st'⟩
  · obtain ⟨kA, A⟩ := P
    exact k h' h.size kA rfl E (Safe.ext E W.2.2.1.1 (Safe.new (Nat.le_refl _))) ((Arv.new A hn).pad (pad_rep [] _ _))
theorem g_newR {K : String} {index : Nat} {n : Int32} (B : Ctx Z a0 EL p m meth c own bytes ml ret nm) (w1 : (Cond.classLink own index K).before a0 Z = true) (w2 : (Cond.arrayOver (.object K)).before a0 Z = true)
    (hd : decode bytes pc = .ok (.anewarray index, 3)) (hn : ¬ n < 0) {cap : Nat} (hcap : n.toNatClampNeg ≤ cap) (hb : cap * 8 ≤ 536870912) (hc : cells + 1 ≤ R.cells) (hl : slots + cap ≤ R.slots) (hq : pc + 3 = q)
    (k : ∀ (h' : Heap) (a : Addr) (kA : ClassId), @Eq Nat a h.size → Ext h h' → Safe Z EL vm h' a → Ovr Z kA K → Arv Z h' a kA (.object K) n (List.replicate n.toNatClampNeg .null) .null →
      Go wd Z EL p l e R s m args below meth c n0 C N Q vm h' (cells + 1) (slots + cap) (mkF m q Ls (.ref a :: st))) :
    Go wd Z EL p l e R s m args below meth c n0 C N Q vm h cells slots (mkF m pc Ls (.int n :: st)) := by
  subst hq
  intro W
  refine g_ext (cells' := cells + 1) (slots' := slots + cap) (G := mkF m (pc + 3) Ls (.ref h.size :: st)) (P := fun h' => ∃ kA, Arr Z h' h.size (newA kA (.object K) n) (.object K) ∧ Ovr Z kA K) (fun T locs hZ X eT => ?_) (fun h' E P => ?_) W
  · obtain ⟨T', h', kA, X', e', E', A', O', st'⟩ := newR X B.1 (show Z.Warmed39 (s.setVm vm).vm from hZ) (B.fc hZ) w1 w2 eT (g := mkF m pc Ls (.int n :: st)) rfl (B.d hd) rfl hn hcap hb hc hl
    exact ⟨T', h', X', e', E', ⟨kA, A', O'⟩, st'⟩
  · obtain ⟨kA, A, O⟩ := P
    exact k h' h.size kA rfl E (Safe.ext E W.2.2.1.1 (Safe.new (Nat.le_refl _))) O ((Arv.new A hn).pad (pad_rep [] _ _))
theorem g_getF {R0 O n d : String} {index : Nat} {a : Addr} {v : Value} (B : Ctx Z a0 EL p m meth c own bytes ml ret nm) (w : (Cond.fieldLink own index R0 n d).before a0 Z = true) (via : Via Z R0 O n d) (F : Fld Z h a O n d v)
    (hd : decode bytes pc = .ok (.getfield index, 3)) (hq : pc + 3 = q) (k : Go wd Z EL p l e R s m args below meth c n0 C N Q vm h cells slots (mkF m q Ls (v :: st))) :
    Go wd Z EL p l e R s m args below meth c n0 C N Q vm h cells slots (mkF m pc Ls (.ref a :: st)) := by
  subst hq
  exact g_same (fun T locs hZ X eT => getF X B.1 (show Z.Warmed39 (s.setVm vm).vm from hZ) (B.fc hZ) (host := "") (Or.inl w) via eT F (g := mkF m pc Ls (.ref a :: st)) rfl rfl (B.d hd)) k
theorem g_getS {O n d : String} {index : Nat} {v : Value} (B : Ctx Z a0 EL p m meth c own bytes ml ret nm) (w : (Cond.fieldLink own index O n d).before a0 Z = true) (F : Sta Z h O n d v)
    (hd : decode bytes pc = .ok (.getstatic index, 3)) (hq : pc + 3 = q) (k : Go wd Z EL p l e R s m args below meth c n0 C N Q vm h cells slots (mkF m q Ls (v :: st))) :
    Go wd Z EL p l e R s m args below meth c n0 C N Q vm h cells slots (mkF m pc Ls st) := by
  subst hq
  exact g_same (fun T locs hZ X eT => getS X B.1 (show Z.Warmed39 (s.setVm vm).vm from hZ) (host := "") (B.fc hZ) w Via.refl eT F (g := mkF m pc Ls st) rfl (B.d hd)) k
theorem g_cast {K : String} {index : Nat} {a : Addr} (B : Ctx Z a0 EL p m meth c own bytes ml ret nm) (w : (Cond.classLink own index K).before a0 Z = true) (F : Ins Z h a K true)
    (hd : decode bytes pc = .ok (.checkcast index, 3)) (hq : pc + 3 = q) (k : Go wd Z EL p l e R s m args below meth c n0 C N Q vm h cells slots (mkF m q Ls (.ref a :: st))) :
    Go wd Z EL p l e R s m args below meth c n0 C N Q vm h cells slots (mkF m pc Ls (.ref a :: st)) := by
  subst hq
  exact g_same (fun T locs hZ X eT => castY X B.1 (show Z.Warmed39 (s.setVm vm).vm from hZ) (B.fc hZ) w eT F (g := mkF m pc Ls (.ref a :: st)) rfl rfl (B.d hd)) k
theorem g_inst {K : String} {index : Nat} {a : Addr} (B : Ctx Z a0 EL p m meth c own bytes ml ret nm) (w : (Cond.classLink own index K).before a0 Z = true) (F : Ins Z h a K true)
    (hd : decode bytes pc = .ok (.instanceof index, 3)) (hq : pc + 3 = q) (k : Go wd Z EL p l e R s m args below meth c n0 C N Q vm h cells slots (mkF m q Ls (.int 1 :: st))) :
    Go wd Z EL p l e R s m args below meth c n0 C N Q vm h cells slots (mkF m pc Ls (.ref a :: st)) := by
  subst hq
  exact g_same (fun T locs hZ X eT => instY X B.1 (show Z.Warmed39 (s.setVm vm).vm from hZ) (B.fc hZ) w eT F (g := mkF m pc Ls (.ref a :: st)) rfl rfl (B.d hd)) k
theorem g_initO {idx : Nat} {a : Addr} {W : Nat} (B : Ctx Z a0 EL p m meth c own bytes ml ret nm) (w1 : (Cond.methodLink own idx Lib.objectInit).before a0 Z = true) (w2 : (Cond.instanceMethod Lib.objectInit).before a0 Z = true) (w3 : (Cond.code Lib.objectInit ⟨#[0xb1]⟩ 1 none).before a0 Z = true)
    (hs : Ls.size = ml) (hd : decode bytes pc = .ok (.invokespecial idx, 3)) (hf : 1 ≤ R.frames) (hW : (st.map fun v => v.category).sum ≤ W) (hl : W + 12 ≤ R.locals) (hq : pc + 3 = q)
    (k : Go wd Z EL p l e R s m args below meth c n0 C N Q vm h cells slots (mkF m q Ls st)) :
    Go wd Z EL p l e R s m args below meth c n0 C N Q vm h cells slots (mkF m pc Ls (.ref a :: st)) := by
  subst hq
  exact g_same (fun T locs hZ X eT => initO X B.1 (show Z.Warmed39 (s.setVm vm).vm from hZ) (B.fc hZ) w1 w2 w3 eT (g := mkF m pc Ls (.ref a :: st)) rfl (hs.trans B.2.2.1.symm) rfl (B.d hd) hf (W := W) (by show 2 * 0 + _ ≤ W; omega) hl) k
theorem g_putF {R0 O n d K : String} {index kk : Nat} {ty : FieldType} {a : Addr} {v old : Value} (B : Ctx Z a0 EL p m meth c own bytes ml ret nm) (w : (Cond.fieldLink own index R0 n d).before a0 Z = true) (via : Via Z R0 O n d) (F : Fld Z h a O n d old) (E : Exa Z h a K)
    (L : (Cond.lays K O n d).before a0 Z = true ∨ ((Cond.laysFinal K O n d).before a0 Z = true ∧ own = O ∧ nm = "<init>")) (wi : (Cond.instantiable K kk).before a0 Z = true) (hty : parseFieldDescriptor d = some ty) (hn : narrow ty v = v) (hf : fits ty v = true)
    (hd : decode bytes pc = .ok (.putfield index, 3)) (S : Safe Z EL vm h a) (g0 : n0 ≤ a) (hq : pc + 3 = q) (k : ∀ h', Wr h h' a (Jvm.RoadKit.slotOf Z O n d) v → Fld Z h' a O n d v → Go wd Z EL p l e R s m args below meth c n0 C N Q vm h' cells slots (mkF m q Ls st)) :
    Go wd Z EL p l e R s m args below meth c n0 C N Q vm h cells slots (mkF m pc Ls (v :: .ref a :: st)) := by
  subst hq
  refine g_wr (fun T locs hZ X eT => putF X B.1 (show Z.Warmed39 (s.setVm vm).vm from hZ) (B.fc hZ) (host := "") (Or.inl w) via eT F E (L.imp id fun z => ⟨z.1, z.2.1, B.2.2.2.2.2.2.1.trans z.2.2⟩) wi hty hn hf (g := mkF m pc Ls (v :: .ref a :: st)) rfl rfl (B.d hd)) S g0 fun h' W => k h' W (F.same W)
theorem g_putFN {R0 O n d K : String} {index kk : Nat} {ty : FieldType} {a : Addr} {v v' old : Value} (B : Ctx Z a0 EL p m meth c own bytes ml ret nm) (w : (Cond.fieldLink own index R0 n d).before a0 Z = true) (via : Via Z R0 O n d) (F : Fld Z h a O n d old) (E : Exa Z h a K)
    (L : (Cond.lays K O n d).before a0 Z = true ∨ ((Cond.laysFinal K O n d).before a0 Z = true ∧ own = O ∧ nm = "<init>")) (wi : (Cond.instantiable K kk).before a0 Z = true) (hty : parseFieldDescriptor d = some ty) (hn : narrow ty v = v') (hf : fits ty v' = true)
    (hd : decode bytes pc = .ok (.putfield index, 3)) (S : Safe Z EL vm h a) (g0 : n0 ≤ a) (hq : pc + 3 = q) (k : ∀ h', Wr h h' a (Jvm.RoadKit.slotOf Z O n d) v' → Fld Z h' a O n d v' → Go wd Z EL p l e R s m args below meth c n0 C N Q vm h' cells slots (mkF m q Ls st)) :
    Go wd Z EL p l e R s m args below meth c n0 C N Q vm h cells slots (mkF m pc Ls (v :: .ref a :: st)) := by
  subst hq
  refine g_wr (fun T locs hZ X eT => putFN X B.1 (show Z.Warmed39 (s.setVm vm).vm from hZ) (B.fc hZ) w via eT F E (L.imp id fun z => ⟨z.1, z.2.1, B.2.2.2.2.2.2.1.trans z.2.2⟩) wi hty hn hf (g := mkF m pc Ls (v :: .ref a :: st)) rfl rfl (B.d hd)) S g0 fun h' W => k h' W (F.same W)
section Arrays
variable {a : Addr} {kA : ClassId} {z j x : Int32} {x64 : Int64} {vs : List Value} {dv v : Value} {i : Nat} {ty : FieldType}
theorem g_stC (B : Ctx Z a0 EL p m meth c own bytes ml ret nm) (A : Arv Z h a kA .char z vs dv) {x' : Int32} (hx' : nar .char x = x') (hj : ¬ j < 0 ∧ j < z) (hi : j.toNatClampNeg = i) (hl : i < vs.length) (hd : decode bytes pc = .ok (.castore, 1)) (S : Safe Z EL vm h a) (g0 : n0 ≤ a) (hq : pc + 1 = q)
    (k : ∀ h', Wr h h' a j.toNatClampNeg (.int x') → Arv Z h' a kA .char z (vs.set i (.int x')) dv → Go wd Z EL p l e R s m args below meth c n0 C N Q vm h' cells slots (mkF m q Ls st)) :
    Go wd Z EL p l e R s m args below meth c n0 C N Q vm h cells slots (mkF m pc Ls (.int x :: .int j :: .ref a :: st)) := by
  subst hq hx'
  obtain ⟨cl, A1, A2, A3, A4, A5, A6⟩ := A
  exact g_wr (fun T locs hZ X eT => stC X B.1 (show Z.Warmed39 (s.setVm vm).vm from hZ) eT A1 (inb_of A3 hj) (g := mkF m pc Ls (.int x :: .int j :: .ref a :: st)) rfl rfl (B.d hd)) S g0 fun h' W => k h' W (Arv.set A1 A2 A3 A4 A5 A6 (fits_nar_char _) W i hi hl)
theorem g_stB (B : Ctx Z a0 EL p m meth c own bytes ml ret nm) (A : Arv Z h a kA .byte z vs dv) {x' : Int32} (hx' : nar .byte x = x') (hj : ¬ j < 0 ∧ j < z) (hi : j.toNatClampNeg = i) (hl : i < vs.length) (hd : decode bytes pc = .ok (.bastore, 1)) (S : Safe Z EL vm h a) (g0 : n0 ≤ a) (hq : pc + 1 = q)
    (k : ∀ h', Wr h h' a j.toNatClampNeg (.int x') → Arv Z h' a kA .byte z (vs.set i (.int x')) dv → Go wd Z EL p l e R s m args below meth c n0 C N Q vm h' cells slots (mkF m q Ls st)) :
    Go wd Z EL p l e R s m args below meth c n0 C N Q vm h cells slots (mkF m pc Ls (.int x :: .int j :: .ref a :: st)) := by
  subst hq hx'
  obtain ⟨cl, A1, A2, A3, A4, A5, A6⟩ := A
  exact g_wr (fun T locs hZ X eT => stB X B.1 (show Z.Warmed39 (s.setVm vm).vm from hZ) eT A1 (inb_of A3 hj) (g := mkF m pc Ls (.int x :: .int j :: .ref a :: st)) rfl rfl (B.d hd)) S g0 fun h' W => k h' W (Arv.set A1 A2 A3 A4 A5 A6 (fits_nar_byte _) W i hi hl)
theorem g_stI (B : Ctx Z a0 EL p m meth c own bytes ml ret nm) (A : Arv Z h a kA .int z vs dv) (hj : ¬ j < 0 ∧ j < z) (hi : j.toNatClampNeg = i) (hl : i < vs.length) (hd : decode bytes pc = .ok (.iastore, 1)) (S : Safe Z EL vm h a) (g0 : n0 ≤ a) (hq : pc + 1 = q)
    (k : ∀ h', Wr h h' a j.toNatClampNeg (.int x) → Arv Z h' a kA .int z (vs.set i (.int x)) dv → Go wd Z EL p l e R s m args below meth c n0 C N Q vm h' cells slots (mkF m q Ls st)) :
    Go wd Z EL p l e R s m args below meth c n0 C N Q vm h cells slots (mkF m pc Ls (.int x :: .int j :: .ref a :: st)) := by
  subst hq
  obtain ⟨cl, A1, A2, A3, A4, A5, A6⟩ := A
  exact g_wr (fun T locs hZ X eT => stI X B.1 (show Z.Warmed39 (s.setVm vm).vm from hZ) eT A1 (inb_of A3 hj) (g := mkF m pc Ls (.int x :: .int j :: .ref a :: st)) rfl rfl (B.d hd)) S g0 fun h' W => k h' W (Arv.set A1 A2 A3 A4 A5 A6 rfl W i hi hl)
theorem g_stJ (B : Ctx Z a0 EL p m meth c own bytes ml ret nm) (A : Arv Z h a kA .long z vs dv) (hj : ¬ j < 0 ∧ j < z) (hi : j.toNatClampNeg = i) (hl : i < vs.length) (hd : decode bytes pc = .ok (.lastore, 1)) (S : Safe Z EL vm h a) (g0 : n0 ≤ a) (hq : pc + 1 = q)
    (k : ∀ h', Wr h h' a j.toNatClampNeg (.long x64) → Arv Z h' a kA .long z (vs.set i (.long x64)) dv → Go wd Z EL p l e R s m args below meth c n0 C N Q vm h' cells slots (mkF m q Ls st)) :
    Go wd Z EL p l e R s m args below meth c n0 C N Q vm h cells slots (mkF m pc Ls (.long x64 :: .int j :: .ref a :: st)) := by
  subst hq
  obtain ⟨cl, A1, A2, A3, A4, A5, A6⟩ := A
  exact g_wr (fun T locs hZ X eT => stJ X B.1 (show Z.Warmed39 (s.setVm vm).vm from hZ) eT A1 (inb_of A3 hj) (g := mkF m pc Ls (.long x64 :: .int j :: .ref a :: st)) rfl rfl (B.d hd)) S g0 fun h' W => k h' W (Arv.set A1 A2 A3 A4 A5 A6 rfl W i hi hl)
theorem g_stR {K : String} (B : Ctx Z a0 EL p m meth c own bytes ml ret nm) (A : Arv Z h a kA (.object K) z vs dv) (hj : ¬ j < 0 ∧ j < z) (hi : j.toNatClampNeg = i) (hl : i < vs.length) (hv : fits (.object K) v = true) (F : Sto Z h a v) (hd : decode bytes pc = .ok (.aastore, 1)) (S : Safe Z EL vm h a) (g0 : n0 ≤ a) (hq : pc + 1 = q)
    (k : ∀ h', Wr h h' a j.toNatClampNeg v → Arv Z h' a kA (.object K) z (vs.set i v) dv → Go wd Z EL p l e R s m args below meth c n0 C N Q vm h' cells slots (mkF m q Ls st)) :
    Go wd Z EL p l e R s m args below meth c n0 C N Q vm h cells slots (mkF m pc Ls (v :: .int j :: .ref a :: st)) := by
  subst hq
  obtain ⟨cl, A1, A2, A3, A4, A5, A6⟩ := A
  exact g_wr (fun T locs hZ X eT => stR X B.1 (show Z.Warmed39 (s.setVm vm).vm from hZ) eT A1 (inb_of A3 hj) rfl F (g := mkF m pc Ls (v :: .int j :: .ref a :: st)) rfl rfl (B.d hd)) S g0 fun h' W => k h' W (Arv.set A1 A2 A3 A4 A5 A6 hv W i hi hl)
theorem g_len (B : Ctx Z a0 EL p m meth c own bytes ml ret nm) (A : Arv Z h a kA ty z vs dv) (hd : decode bytes pc = .ok (.arraylength, 1)) (hq : pc + 1 = q)
    (k : Go wd Z EL p l e R s m args below meth c n0 C N Q vm h cells slots (mkF m q Ls (.int z :: st))) :
    Go wd Z EL p l e R s m args below meth c n0 C N Q vm h cells slots (mkF m pc Ls (.ref a :: st)) := by
  subst hq
  obtain ⟨cl, A1, A2, A3, A4, A5, A6⟩ := A
  refine g_same (fun T locs hZ X eT => ⟨T, X, eT, fun t kt => X.arraylength B.1 (by rw [eT]; exact A1.1) (State.isArrayOf_alike (show Z.vm.Alike (s.setVm vm).vm from hZ.alike) A1.2.1) (g := mkF m pc Ls (.ref a :: st)) rfl rfl (B.d hd) _ (by rw [len_of A3 A4]; exact kt)⟩) k
theorem g_ldC (B : Ctx Z a0 EL p m meth c own bytes ml ret nm) (A : Arv Z h a kA .char z vs dv) (hj : ¬ j < 0 ∧ j < z) (hv : vs.getD j.toNatClampNeg dv = v) (hd : decode bytes pc = .ok (.caload, 1)) (hq : pc + 1 = q)
    (k : Go wd Z EL p l e R s m args below meth c n0 C N Q vm h cells slots (mkF m q Ls (v :: st))) :
    Go wd Z EL p l e R s m args below meth c n0 C N Q vm h cells slots (mkF m pc Ls (.int j :: .ref a :: st)) := by
  subst hq
  obtain ⟨cl, A1, A2, A3, A4, A5, A6⟩ := A
  refine g_same (fun T locs hZ X eT => ⟨T, X, eT, fun t kt => X.caload B.1 (by rw [eT]; exact A1.1) (State.isArrayOf_alike (show Z.vm.Alike (s.setVm vm).vm from hZ.alike) A1.2.1) A1.2.2 (inb_of A3 hj) (A5.at (inb_of A3 hj) hv) (g := mkF m pc Ls (.int j :: .ref a :: st)) rfl rfl (B.d hd) _ kt⟩) k
theorem g_ldI (B : Ctx Z a0 EL p m meth c own bytes ml ret nm) (A : Arv Z h a kA .int z vs dv) (hj : ¬ j < 0 ∧ j < z) (hv : vs.getD j.toNatClampNeg dv = v) (hd : decode bytes pc = .ok (.iaload, 1)) (hq : pc + 1 = q)
    (k : Go wd Z EL p l e R s m args below meth c n0 C N Q vm h cells slots (mkF m q Ls (v :: st))) :
    Go wd Z EL p l e R s m args below meth c n0 C N Q vm h cells slots (mkF m pc Ls (.int j :: .ref a :: st)) := by
  subst hq
  obtain ⟨cl, A1, A2, A3, A4, A5, A6⟩ := A
  refine g_same (fun T locs hZ X eT => ⟨T, X, eT, fun t kt => X.iaload B.1 (by rw [eT]; exact A1.1) (State.isArrayOf_alike (show Z.vm.Alike (s.setVm vm).vm from hZ.alike) A1.2.1) A1.2.2 (inb_of A3 hj) (A5.at (inb_of A3 hj) hv) (g := mkF m pc Ls (.int j :: .ref a :: st)) rfl rfl (B.d hd) _ kt⟩) k
theorem g_ldJ (B : Ctx Z a0 EL p m meth c own bytes ml ret nm) (A : Arv Z h a kA .long z vs dv) (hj : ¬ j < 0 ∧ j < z) (hv : vs.getD j.toNatClampNeg dv = v) (hd : decode bytes pc = .ok (.laload, 1)) (hq : pc + 1 = q)
    (k : Go wd Z EL p l e R s m args below meth c n0 C N Q vm h cells slots (mkF m q Ls (v :: st))) :
    Go wd Z EL p l e R s m args below meth c n0 C N Q vm h cells slots (mkF m pc Ls (.int j :: .ref a :: st)) := by
  subst hq
  obtain ⟨cl, A1, A2, A3, A4, A5, A6⟩ := A
  refine g_same (fun T locs hZ X eT => ⟨T, X, eT, fun t kt => X.laload B.1 (by rw [eT]; exact A1.1) (State.isArrayOf_alike (show Z.vm.Alike (s.setVm vm).vm from hZ.alike) A1.2.1) A1.2.2 (inb_of A3 hj) (A5.at (inb_of A3 hj) hv) (g := mkF m pc Ls (.int j :: .ref a :: st)) rfl rfl (B.d hd) _ kt⟩) k
theorem g_ldB (B : Ctx Z a0 EL p m meth c own bytes ml ret nm) (A : Arv Z h a kA .byte z vs dv) (hj : ¬ j < 0 ∧ j < z) (hv : vs.getD j.toNatClampNeg dv = v) (hd : decode bytes pc = .ok (.baload, 1)) (hq : pc + 1 = q)
    (k : Go wd Z EL p l e R s m args below meth c n0 C N Q vm h cells slots (mkF m q Ls (v :: st))) :
    Go wd Z EL p l e R s m args below meth c n0 C N Q vm h cells slots (mkF m pc Ls (.int j :: .ref a :: st)) := by
  subst hq
  obtain ⟨cl, A1, A2, A3, A4, A5, A6⟩ := A
  refine g_same (fun T locs hZ X eT => ⟨T, X, eT, fun t kt => X.baloadBytes B.1 (by rw [eT]; exact A1.1) (State.isArrayOf_alike (show Z.vm.Alike (s.setVm vm).vm from hZ.alike) A1.2.1) A1.2.2 (inb_of A3 hj) (A5.at (inb_of A3 hj) hv) (g := mkF m pc Ls (.int j :: .ref a :: st)) rfl rfl (B.d hd) _ kt⟩) k
theorem g_ldR (B : Ctx Z a0 EL p m meth c own bytes ml ret nm) (A : Arv Z h a kA ty z vs dv) (hty : ty.isReference = true) (hj : ¬ j < 0 ∧ j < z) (hv : vs.getD j.toNatClampNeg dv = v) (hd : decode bytes pc = .ok (.aaload, 1)) (hq : pc + 1 = q)
    (k : Go wd Z EL p l e R s m args below meth c n0 C N Q vm h cells slots (mkF m q Ls (v :: st))) :
    Go wd Z EL p l e R s m args below meth c n0 C N Q vm h cells slots (mkF m pc Ls (.int j :: .ref a :: st)) := by
  subst hq
  obtain ⟨cl, A1, A2, A3, A4, A5, A6⟩ := A
  refine g_same (fun T locs hZ X eT => ⟨T, X, eT, fun t kt => X.aaload B.1 (by rw [eT]; exact A1.1) (State.isArrayOf_alike (show Z.vm.Alike (s.setVm vm).vm from hZ.alike) A1.2.1) hty A1.2.2 (inb_of A3 hj) (A5.at (inb_of A3 hj) hv) (g := mkF m pc Ls (.int j :: .ref a :: st)) rfl rfl (B.d hd) _ kt⟩) k
end Arrays
theorem g_ldcI {index : Nat} {v : Int32} (B : Ctx Z a0 EL p m meth c own bytes ml ret nm) (w : (Cond.constant own index v).before a0 Z = true) (hd : decode bytes pc = .ok (.ldc index, 2)) (hq : pc + 2 = q)
    (k : Go wd Z EL p l e R s m args below meth c n0 C N Q vm h cells slots (mkF m q Ls (.int v :: st))) : Go wd Z EL p l e R s m args below meth c n0 C N Q vm h cells slots (mkF m pc Ls st) := by
  subst hq
  exact g_same (fun T locs hZ X eT => ⟨T, X, eT, X.ldcInt B.1 (B.fc hZ) (mvT (s := s.setVm vm) hZ w) (g := mkF m pc Ls st) rfl (B.d hd)⟩) k
theorem g_ldcwI {index : Nat} {v : Int32} (B : Ctx Z a0 EL p m meth c own bytes ml ret nm) (w : (Cond.constant own index v).before a0 Z = true) (hd : decode bytes pc = .ok (.ldc_w index, 3)) (hq : pc + 3 = q)
    (k : Go wd Z EL p l e R s m args below meth c n0 C N Q vm h cells slots (mkF m q Ls (.int v :: st))) : Go wd Z EL p l e R s m args below meth c n0 C N Q vm h cells slots (mkF m pc Ls st) := by
  subst hq
  exact g_same (fun T locs hZ X eT => ⟨T, X, eT, X.ldcwInt B.1 (B.fc hZ) (mvT (s := s.setVm vm) hZ w) (g := mkF m pc Ls st) rfl (B.d hd)⟩) k
theorem g_ldc2J {index : Nat} {v : Int64} (B : Ctx Z a0 EL p m meth c own bytes ml ret nm) (w : (Cond.constantLong own index v).before a0 Z = true) (hd : decode bytes pc = .ok (.ldc2_w index, 3)) (hq : pc + 3 = q)
    (k : Go wd Z EL p l e R s m args below meth c n0 C N Q vm h cells slots (mkF m q Ls (.long v :: st))) : Go wd Z EL p l e R s m args below meth c n0 C N Q vm h cells slots (mkF m pc Ls st) := by
  subst hq
  exact g_same (fun T locs hZ X eT => ⟨T, X, eT, X.ldc2Long B.1 (B.fc hZ) (mvT (s := s.setVm vm) hZ w) (g := mkF m pc Ls st) rfl (B.d hd)⟩) k
/-! String constants, array clones, references compared -/
theorem g_ldcS {index : Nat} {text : String} {vs : List Value} {z : Int32} {n : Nat} (B : Ctx Z a0 EL p m meth c own bytes ml ret nm) (w : (Cond.stringLink own index text).before a0 Z = true) (wS : ∀ a ∈ Bundle.stringAtoms, a.before a0 Z = true) (hmem : (own, index) ∈ EL)
    (ht : (∀ c ∈ text.toList, c.toNat < 256) ∧ text.toList.map (fun c => Value.int (Jvm.Lit.byteI c.toNat.toUInt16)) = vs) (hz : ¬ z < 0) (hl : z.toNatClampNeg = vs.length)
    (hd : decode bytes pc = .ok (.ldc index, 2)) (hn : 4 * text.toList.length ≤ n) (hbig : n ≤ 536870912) (hc : cells + 2 ≤ R.cells) (hsl : slots + (n + 4) ≤ R.slots) (hq : pc + 2 = q)
    (k : ∀ (h' : Heap) (vm' : Vm) (a b : Addr) (kb : ClassId), Z.Warmed39 vm' → Ext h h' → CHr Z EL vm h vm' h' → Exa Z h' a "java/lang/String" → Fld Z h' a "java/lang/String" "coder" "B" (.int 0) → Fld Z h' a "java/lang/String" "value" "[B" (.ref b) → Arv Z h' b kb .byte z vs (.int 0) →
      (∀ x, Safe Z EL vm' h' x → @Ne Nat x a ∧ @Ne Nat x b) → Go true Z EL p l e R s m args below meth c n0 C N Q vm' h' (cells + 2) (slots + (n + 4)) (mkF m q Ls (.ref a :: st))) :
    Go true Z EL p l e R s m args below meth c n0 C N Q vm h cells slots (mkF m pc Ls st) := by
  subst hq
  intro W T locs X eT F
  obtain ⟨hZ, ⟨k0, hS, hk⟩, hR, hw⟩ := W
  obtain ⟨a, T', h', k1, b, kb, X', e', E', hS', hk', hZ', -, A1, A2, A3, A4, -, -, hC, -, hne, st'⟩ := ldcCH X B.1 hZ (B.fc (s := s) hZ) w wS eT hS hk B.2.2.2.2.2.2.2 hmem hR.1 ht hz hl (g := mkF m pc Ls st) rfl (B.d hd) hn hbig hc hsl
  obtain ⟨s₂, o, r1, r⟩ := k h' T'.vm a b kb hZ' E' hC A1 A2 A3 A4 hne ⟨hZ', ⟨k1, hS', hk'⟩, hR.trans hC, fun q => (nomatch q)⟩ T' locs X' e' F
  exact ⟨s₂, o, st' _ r1, r⟩
theorem g_clone {ad : String} {index : Nat} {a : Addr} {kA : ClassId} {ty : FieldType} {z : Int32} {vs : List Value} {dv : Value} {W cap : Nat} (B : Ctx Z a0 EL p m meth c own bytes ml ret nm)
    (w1 : (Cond.methodLink own index ⟨ad, "clone", "()Ljava/lang/Object;"⟩).before a0 Z = true) (w2 : (Cond.sameMethod ad "java/lang/Object" "clone" "()Ljava/lang/Object;").before a0 Z = true) (w3 : (Cond.native ⟨"java/lang/Object", "clone", "()Ljava/lang/Object;"⟩).before a0 Z = true)
    (w4 : (Cond.instanceMethod ⟨"java/lang/Object", "clone", "()Ljava/lang/Object;"⟩).before a0 Z = true) (w5 : (Cond.selects ad ⟨ad, "clone", "()Ljava/lang/Object;"⟩ ⟨"java/lang/Object", "clone", "()Ljava/lang/Object;"⟩).before a0 Z = true) (w6 : (Cond.castable ad "java/lang/Cloneable").before a0 Z = true)
    (A : Arv Z h a kA ty z vs dv) (E : Exa Z h a ad) (hs : Ls.size = ml) (hd : decode bytes pc = .ok (.invokevirtual index, 3)) (hf : 1 ≤ R.frames) (hW : (st.map fun v => v.category).sum ≤ W) (hl : W + 14 ≤ R.locals) (hcap : z.toNatClampNeg ≤ cap) (hc : cells + 1 ≤ R.cells) (hsl : slots + cap ≤ R.slots) (hq : pc + 3 = q)
    (k : ∀ (h' : Heap) (b : Addr), @Eq Nat b h.size → Ext h h' → Safe Z EL vm h' b → Arv Z h' b kA ty z vs dv → Exa Z h' b ad → Go wd Z EL p l e R s m args below meth c n0 C N Q vm h' (cells + 1) (slots + cap) (mkF m q Ls (.ref b :: st))) :
    Go wd Z EL p l e R s m args below meth c n0 C N Q vm h cells slots (mkF m pc Ls (.ref a :: st)) := by
  subst hq
  intro Wt0
  refine g_ext (cells' := cells + 1) (slots' := slots + cap) (G := mkF m (pc + 3) Ls (.ref h.size :: st)) (P := fun h' => Arv Z h' h.size kA ty z vs dv ∧ Exa Z h' h.size ad) (fun T locs hZ X eT => ?_) (fun h' E' P => k h' h.size rfl E' (Safe.ext E' Wt0.2.2.1.1 (Safe.new (Nat.le_refl _))) P.1 P.2) Wt0
  obtain ⟨T', h', X', e', E', A', D', st'⟩ := cloneH X B.1 (show Z.Warmed39 (s.setVm vm).vm from hZ) (B.fc hZ) w1 w2 w3 w4 w5 w6 eT A.arh E (g := mkF m pc Ls (.ref a :: st)) rfl (hs.trans B.2.2.1.symm) rfl (B.d hd) hf (W := W) (by show 2 * 0 + _ ≤ W; omega) hl hcap hc hsl
  exact ⟨T', h', X', e', E', ⟨A', D'⟩, st'⟩
theorem g_acmp {cd : ACond} {x y : Value} {of : Int} {same : Bool} (B : Ctx Z a0 EL p m meth c own bytes ml ret nm) (h1 : x.isRef = true) (h2 : y.isRef = true) (hd : decode bytes pc = .ok (.if_acmp cd of, 3)) (hs : decide (x = y) = same) (ho : 0 ≤ (pc : Int) + of) (hq : q = if acV cd same = true then ((pc : Int) + of).toNat else pc + 3)
    (k : Go wd Z EL p l e R s m args below meth c n0 C N Q vm h cells slots (mkF m q Ls st)) : Go wd Z EL p l e R s m args below meth c n0 C N Q vm h cells slots (mkF m pc Ls (y :: x :: st)) :=
  g_same (fun T locs hZ X eT => ⟨T, X, eT, fun t kt => Jvm.RoadKit.acmp (g := mkF m pc Ls (y :: x :: st)) X B.1 rfl h1 h2 (pc0 := pc) (pc' := q) (same := same) rfl (B.d hd) rfl hs ho hq kt⟩) k
theorem g_instNull {index : Nat} (B : Ctx Z a0 EL p m meth c own bytes ml ret nm) (hd : decode bytes pc = .ok (.instanceof index, 3)) (hq : pc + 3 = q)
    (k : Go wd Z EL p l e R s m args below meth c n0 C N Q vm h cells slots (mkF m q Ls (.int 0 :: st))) : Go wd Z EL p l e R s m args below meth c n0 C N Q vm h cells slots (mkF m pc Ls (.null :: st)) := by
  subst hq
  exact g_same (fun T locs hZ X eT => ⟨T, X, eT, fun t kt => X.instanceofNull B.1 (g := mkF m pc Ls (.null :: st)) rfl rfl (B.d hd) _ kt⟩) k
theorem g_castNull {index : Nat} (B : Ctx Z a0 EL p m meth c own bytes ml ret nm) (hd : decode bytes pc = .ok (.checkcast index, 3)) (hq : pc + 3 = q)
    (k : Go wd Z EL p l e R s m args below meth c n0 C N Q vm h cells slots (mkF m q Ls (.null :: st))) : Go wd Z EL p l e R s m args below meth c n0 C N Q vm h cells slots (mkF m pc Ls (.null :: st)) := by
  subst hq
  exact g_same (fun T locs hZ X eT => ⟨T, X, eT, fun t kt => X.checkcastNull B.1 (g := mkF m pc Ls (.null :: st)) rfl rfl (B.d hd) _ kt⟩) k
/-! returns -/
theorem g_end {v : Option Value} (B : Ctx Z a0 EL p m meth c own bytes ml ret nm) (hv : ret = none → v = none) (hC : cells ≤ C) (hN : slots ≤ N) (hQ : Q v h)
    (hs : ∀ (T : State) (locs : List Loc) (fs : List Frame), Stand p l e R (s.setVm vm) m args below meth c T locs cells slots → (∀ (f : JFrame) (acts : List Action), f.method = m → f.locked = none → f.entered = [] → (doReturn e (T.setTop f) acts v).1 = T.setFrames fs) → Steps p.tables e below (T.setTop g) (T.setFrames fs)) :
    Go wd Z EL p l e R s m args below meth c n0 C N Q vm h cells slots g := by
  intro W T locs X eT F
  obtain ⟨hZ, ⟨k0, hS, hk⟩, hR, hw⟩ := W
  have hlk : meth.locks = false := B.2.2.2.2.1
  have hv' : meth.sig.returnType = none → v = none := fun z => hv (B.2.2.2.1.symm.trans z)
  subst eT
  obtain ⟨fs, hr, hrun, hend, hE⟩ := X.leaveW hS hk (v := v) hv' hlk
  have hR2 : CHr Z EL s.vm s.heap (T.setFrames fs).vm (T.setFrames fs).heap := hR.trans (show CHr Z EL vm T.heap T.vm T.heap from CHv.at X hZ B.2.2.2.2.2.2.2 hR.1)
  refine ⟨_, _, hs T locs fs X hr, hrun, hend, v, locs, rfl, ⟨hQ, F⟩, hR2, ⟨hE.1, hE.2.1, hE.2.2.1, hE.2.2.2.mono hC hN⟩, fun z => ?_⟩
  obtain ⟨rfl, -⟩ := hw z
  exact ⟨hE.1, X.warmed, hE.2.2.2.mono hC hN⟩
theorem g_ret0 (B : Ctx Z a0 EL p m meth c own bytes ml none nm) (hd : decode bytes pc = .ok (.return_, 1)) (hC : cells ≤ C) (hN : slots ≤ N) (hQ : Q none h) :
    Go wd Z EL p l e R s m args below meth c n0 C N Q vm h cells slots (mkF m pc Ls []) :=
  g_end B (fun _ => rfl) hC hN hQ fun T locs fs X hr => X.returnOut B.1 B.2.2.2.1 (B.d hd) hr
theorem g_retN {t : FieldType} {z : Int32} (B : Ctx Z a0 EL p m meth c own bytes ml (some t) nm) (ht : t = .boolean ∨ t = .byte ∨ t = .char ∨ t = .short) (hd : decode bytes pc = .ok (.ireturn, 1)) (hC : cells ≤ C) (hN : slots ≤ N) (hQ : Q (some (.int (nar t z))) h) :
    Go wd Z EL p l e R s m args below meth c n0 C N Q vm h cells slots (mkF m pc Ls (.int z :: st)) :=
  g_end B (fun q => nomatch q) hC hN hQ fun T locs fs X hr => retN X B.1 B.2.2.2.1 ht (B.d hd) hr
theorem g_retI {z : Int32} (B : Ctx Z a0 EL p m meth c own bytes ml (some .int) nm) (hd : decode bytes pc = .ok (.ireturn, 1)) (hC : cells ≤ C) (hN : slots ≤ N) (hQ : Q (some (.int z)) h) :
    Go wd Z EL p l e R s m args below meth c n0 C N Q vm h cells slots (mkF m pc Ls (.int z :: st)) :=
  g_end B (fun q => nomatch q) hC hN hQ fun T locs fs X hr => retOut X B.1 B.2.2.2.1 rfl (Or.inl ⟨rfl, Or.inl rfl, z, rfl⟩) (B.d hd) hr
theorem g_retJ {z : Int64} (B : Ctx Z a0 EL p m meth c own bytes ml (some .long) nm) (hd : decode bytes pc = .ok (.lreturn, 1)) (hC : cells ≤ C) (hN : slots ≤ N) (hQ : Q (some (.long z)) h) :
    Go wd Z EL p l e R s m args below meth c n0 C N Q vm h cells slots (mkF m pc Ls (.long z :: st)) :=
  g_end B (fun q => nomatch q) hC hN hQ fun T locs fs X hr => retOut X B.1 B.2.2.2.1 rfl (Or.inr (Or.inl ⟨rfl, rfl, z, rfl⟩)) (B.d hd) hr
theorem g_retA {t : FieldType} {v : Value} (B : Ctx Z a0 EL p m meth c own bytes ml (some t) nm) (ht : t.isReference = true) (hv : v.isRef = true) (hd : decode bytes pc = .ok (.areturn, 1)) (hC : cells ≤ C) (hN : slots ≤ N) (hQ : Q (some v) h) :
    Go wd Z EL p l e R s m args below meth c n0 C N Q vm h cells slots (mkF m pc Ls (v :: st)) :=
  g_end B (fun q => nomatch q) hC hN hQ fun T locs fs X hr => retOut X B.1 B.2.2.2.1 (by rcases ref_cases hv with rfl | ⟨a, rfl⟩ <;> cases t <;> first | rfl | (cases ht; done)) (Or.inr (Or.inr (Or.inr (Or.inr ⟨rfl, ht, hv⟩)))) (B.d hd) hr
/-! contracts -/
/-- what a body promises: from the arguments 'as' at the heap h it comes back with Q -/
def Met (wd : Bool) (Z : State) (EL : List (String × Nat)) (l : Launch) (y : MethodName) (bytes : ByteArray) (ml : Nat) (ret : Option FieldType) (rm : Room) (as : Array Value) (h : Heap) (sf : List Addr) (n0 : Nat) (Q : Option Value → Heap → Prop) : Prop :=
  ∀ ws, MetFree l y (head1 (Jvm.Cond.code y bytes ml ret :: ws) rm) (fun a U => a = as ∧ Z.Warmed39 U.vm ∧ U.heap = h ∧ CHv Z EL U.vm h ∧ ∀ x ∈ sf, Safe Z EL U.vm h x) (fun _ _ _ _ _ => True) (fun _ U o U' => Fin wd Z EL n0 rm.cells rm.slots Q U o U')
theorem Met.of {y : MethodName} {rm : Room} {as : Array Value} {sf : List Addr} (hnw : wd = false → EL = []) (hpl : plainFor y = true) (hEL : EW Z a0 EL) (hent : ∀ m, entryFrame m as ml = mkF m 0 Ls [])
    (body : ∀ p e s m below meth c, Ctx Z a0 EL p m meth c y.cls bytes ml ret y.name → (∀ x ∈ sf, Safe Z EL s.vm h x) → Go wd Z EL p l e rm s m as below meth c n0 rm.cells rm.slots Q s.vm h 0 0 (mkF m 0 Ls [])) : Met wd Z EL l y bytes ml ret rm as h sf n0 Q := by
  intro ws
  refine MetFree.of_bodySF hpl hisR ?_
  intro p e s m args below meth c s₁ Bd hml0 hP hK
  obtain ⟨rfl, hZ, hh, hC, hsf⟩ := hP
  have X0 : Stand p l e rm s m args below meth c s₁ [] 0 0 := Stand.of_body Bd
  have e0 : s₁.heap = h := by rw [← hh, Bd.state]; rfl
  have hown : Z.vm.findClass y.cls = some m.cls := by rw [← hZ.alike.findClass]; exact findClass_of_methodNamed Bd.named
  obtain ⟨s₂, o, r1, r⟩ := body p e s m below meth c ⟨Bd.exec, Bd.bytes, hml0, Bd.returns, Bd.notSynchronized, hown, (name_of_methodNamed Bd.named Bd.method).1, hEL⟩ hsf
    ⟨hZ, ⟨0, (State.WarmedH.refl s).since 0, Nat.zero_le _⟩, by rw [hh]; exact CHr.refl hC, fun z => ⟨rfl, hnw z⟩⟩ s₁ [] X0 e0 (Fr.nil n0)
  exact ⟨s₂, o, castTop (hent m) r1, r⟩
/-! calls -/
/-- a call site: whoever pays the callee, the walk goes on behind it -/
def Call (Z : State) (p : Program) (l : Launch) (e : Env) (R : Room) (s : State) (m : MethodId) (args : Array Value) (below : List Frame) (meth : Method) (c : Code) (vm : Vm) (h : Heap) (y : MethodName) (len W : Nat) (as : Array Value) (g : JFrame) (G : Option Value → JFrame) : Prop :=
  Z.Warmed39 vm → ∀ (T : State) (locs : List Loc) (cells slots : Nat), Stand p l e R (s.setVm vm) m args below meth c T locs cells slots → T.heap = h →
    (∀ {Pre : Pt → Array Value → Prop} {Post : Pt → Array Value → Option Value → Pt → Prop}, Back l R p e below (s.setVm vm) args y len W Pre Post → (∀ vm₁, (s.setVm vm).WarmedH vm₁ → Pre ⟨T.setVm vm₁, locs, cells, slots⟩ as) →
      ∃ (v : Option Value) (vm₁ : Vm) (B : Pt), Stand p l e R (s.setVm vm) m args below meth c B.U B.locs B.cells B.slots ∧ Post ⟨T.setVm vm₁, locs, cells, slots⟩ as v B ∧ Steps p.tables e below (T.setTop g) (B.U.setTop (G v))) ∧
    (∀ {Pre : Pt → Array Value → Prop} {Post : Pt → Array Value → Option Value → Pt → Prop}, BackS l R p e below (s.setVm vm) args y len W Pre Post → (∀ vm₁, (s.setVm vm).WarmedH vm₁ → Pre ⟨T.setVm vm₁, locs, cells, slots⟩ as) →
      ∃ (v : Option Value) (vm₁ : Vm) (B : Pt), Stand p l e R ((s.setVm vm).setVm B.U.vm) m args below meth c B.U B.locs B.cells B.slots ∧ (s.setVm vm).Since B.U.vm B.U.heap.size ∧ T.heap.size ≤ B.U.heap.size ∧ Post ⟨T.setVm vm₁, locs, cells, slots⟩ as v B ∧ Steps p.tables e below (T.setTop g) (B.U.setTop (G v)))
section CallSites
variable {y : MethodName} {index : Nat} {bs : ByteArray} {mL : Nat} {rt : Option FieldType} {W : Nat} {argsL rest : List Value}
theorem c_static (B : Ctx Z a0 EL p m meth c own bytes ml ret nm) (w1 : (Cond.methodLink own index y).before a0 Z = true) (w2 : (Cond.static y).before a0 Z = true) (w3 : (Cond.initialized y.cls).before a0 Z = true) (w4 : (Cond.code y bs mL rt).before a0 Z = true)
    (hy : y.cls ≠ "java/lang/invoke/MethodHandle" ∧ y.cls ≠ "java/lang/invoke/VarHandle") (hs : Ls.size = ml) (hlen : ∀ sig, parseMethodDescriptor y.desc = some sig → argsL.length = sig.parameters.length) (hst : st = argsL.reverse ++ rest) (hW : (rest.map fun v => v.category).sum ≤ W)
    (hd : decode bytes pc = .ok (.invokestatic index, 3)) (hq : pc + 3 = q) : Call Z p l e R s m args below meth c vm h y 3 W argsL.toArray (mkF m pc Ls st) (fun v => mkF m q Ls (v.toList ++ rest)) := by
  subst hq hst
  intro hZ T locs cells slots X eT
  have hZ' : Z.Warmed39 (s.setVm vm).vm := hZ
  refine ⟨fun {Pre Post} hK hpre => ?_, fun {Pre Post} hK hpre => ?_⟩
  · obtain ⟨v, vm₁, B', -, X', hP, st'⟩ := Jvm.LawKit.callS X B.1 (B.fc hZ) (mvT hZ' w1) (mvT hZ' w2) (mvT hZ' w3) (mvT hZ' w4) hy hK (g := mkF m pc Ls (argsL.reverse ++ rest)) rfl (hs.trans B.2.2.1.symm) hlen rfl (by show 2 * 0 + _ ≤ W; omega) (B.d hd) hpre
    exact ⟨v, vm₁, B', X', hP, st' _ (Steps.refl _)⟩
  · obtain ⟨v, vm₁, B', -, X', h1, h2, hP, st'⟩ := callSS X B.1 (B.fc hZ) (mvT hZ' w1) (mvT hZ' w2) (mvT hZ' w3) (mvT hZ' w4) hy hK (g := mkF m pc Ls (argsL.reverse ++ rest)) rfl (hs.trans B.2.2.1.symm) hlen rfl (by show 2 * 0 + _ ≤ W; omega) (B.d hd) hpre
    exact ⟨v, vm₁, B', X', h1, h2, hP, st'⟩
theorem c_init {a : Addr} (B : Ctx Z a0 EL p m meth c own bytes ml ret nm) (hy1 : y.name = "<init>") (w1 : (Cond.methodLink own index y).before a0 Z = true) (w2 : (Cond.instanceMethod y).before a0 Z = true) (w4 : (Cond.code y bs mL none).before a0 Z = true)
    (hy : y.cls ≠ "java/lang/invoke/MethodHandle" ∧ y.cls ≠ "java/lang/invoke/VarHandle") (hs : Ls.size = ml) (hlen : ∀ sig, parseMethodDescriptor y.desc = some sig → argsL.length = sig.parameters.length) (hst : st = argsL.reverse ++ .ref a :: rest) (hW : (rest.map fun v => v.category).sum ≤ W)
    (hd : decode bytes pc = .ok (.invokespecial index, 3)) (hq : pc + 3 = q) : Call Z p l e R s m args below meth c vm h y 3 W (.ref a :: argsL).toArray (mkF m pc Ls st) (fun v => mkF m q Ls (v.toList ++ rest)) := by
  subst hq hst
  intro hZ T locs cells slots X eT
  have hZ' : Z.Warmed39 (s.setVm vm).vm := hZ
  refine ⟨fun {Pre Post} hK hpre => ?_, fun {Pre Post} hK hpre => ?_⟩
  · obtain ⟨v, vm₁, B', -, X', hP, st'⟩ := X.specialBack B.1 hy1 (B.fc hZ) (mvT hZ' w1) (mvT hZ' w2) (mvT hZ' w4) hy hK (g := mkF m pc Ls (argsL.reverse ++ .ref a :: rest)) rfl (hs.trans B.2.2.1.symm) (Steps.refl _) hlen rfl (by show 2 * 0 + _ ≤ W; omega) (B.d hd) hpre
    exact ⟨v, vm₁, B', X', hP, st'⟩
  · obtain ⟨v, vm₁, B', -, X', h1, h2, hP, st'⟩ := X.specialBackS B.1 hy1 (B.fc hZ) (mvT hZ' w1) (mvT hZ' w2) (mvT hZ' w4) hy hK (g := mkF m pc Ls (argsL.reverse ++ .ref a :: rest)) rfl (hs.trans B.2.2.1.symm) (Steps.refl _) hlen rfl (by show 2 * 0 + _ ≤ W; omega) (B.d hd) hpre
    exact ⟨v, vm₁, B', X', h1, h2, hP, st'⟩
theorem c_virt {z : MethodName} {a : Addr} {K : String} (B : Ctx Z a0 EL p m meth c own bytes ml ret nm) (E : Exa Z h a K) (w1 : (Cond.methodLink own index z).before a0 Z = true) (w2 : (Cond.declares z).before a0 Z = true) (w3 : (Cond.selects K z y).before a0 Z = true) (w4 : (Cond.instanceMethod y).before a0 Z = true)
    (hnf : ∀ s' : State, Z.Warmed39 s'.vm → NotFace s' z) (hy : z.cls ≠ "java/lang/invoke/MethodHandle" ∧ z.cls ≠ "java/lang/invoke/VarHandle") (hs : Ls.size = ml) (hlen : ∀ sig, parseMethodDescriptor z.desc = some sig → argsL.length = sig.parameters.length) (hst : st = argsL.reverse ++ .ref a :: rest) (hW : (rest.map fun v => v.category).sum ≤ W)
    (hd : decode bytes pc = .ok (.invokevirtual index, 3)) (hq : pc + 3 = q) : Call Z p l e R s m args below meth c vm h y 3 W (.ref a :: argsL).toArray (mkF m pc Ls st) (fun v => mkF m q Ls (v.toList ++ rest)) := by
  subst hq hst
  intro hZ T locs cells slots X eT
  have hZ' : Z.Warmed39 (s.setVm vm).vm := hZ
  obtain ⟨cB, kB, i1, i2, i3⟩ := isOf (s := s.setVm vm) hZ' eT E
  refine ⟨fun {Pre Post} hK hpre => ?_, fun {Pre Post} hK hpre => ?_⟩
  · obtain ⟨v, vm₁, B', -, X', hP, st'⟩ := X.virtualBack B.1 (B.fc hZ) (mvT hZ' w1) (mvT hZ' w2) (hnf _ hZ') (mvT hZ' w3) (mvT hZ' w4) hy hK i1 i3 (g := mkF m pc Ls (argsL.reverse ++ .ref a :: rest)) rfl (hs.trans B.2.2.1.symm) (Steps.refl _) hlen rfl (by show 2 * 0 + _ ≤ W; omega) (B.d hd) hpre
    exact ⟨v, vm₁, B', X', hP, st'⟩
  · obtain ⟨v, vm₁, B', -, X', h1, h2, hP, st'⟩ := X.virtualBackS B.1 (B.fc hZ) (mvT hZ' w1) (mvT hZ' w2) (hnf _ hZ') (mvT hZ' w3) (mvT hZ' w4) hy hK i1 i3 (g := mkF m pc Ls (argsL.reverse ++ .ref a :: rest)) rfl (hs.trans B.2.2.1.symm) (Steps.refl _) hlen rfl (by show 2 * 0 + _ ≤ W; omega) (B.d hd) hpre
    exact ⟨v, vm₁, B', X', h1, h2, hP, st'⟩
/-- a private method by invokevirtual; z: another method of its class, which some class selects -/
theorem c_priv {z : MethodName} {a : Addr} {K K' : String} (B : Ctx Z a0 EL p m meth c own bytes ml ret nm) (E : Exa Z h a K) (w1 : (Cond.methodLink own index y).before a0 Z = true) (w2 : (Cond.instanceMethod y).before a0 Z = true) (w3 : (Cond.privateMethod y).before a0 Z = true) (w4 : (Cond.code y bs mL rt).before a0 Z = true)
    (wo : (Cond.selects K' z z).before a0 Z = true) (hz : z.cls = y.cls) (hy : y.cls ≠ "java/lang/invoke/MethodHandle" ∧ y.cls ≠ "java/lang/invoke/VarHandle") (hs : Ls.size = ml) (hlen : ∀ sig, parseMethodDescriptor y.desc = some sig → argsL.length = sig.parameters.length) (hst : st = argsL.reverse ++ .ref a :: rest) (hW : (rest.map fun v => v.category).sum ≤ W)
    (hd : decode bytes pc = .ok (.invokevirtual index, 3)) (hq : pc + 3 = q) : Call Z p l e R s m args below meth c vm h y 3 W (.ref a :: argsL).toArray (mkF m pc Ls st) (fun v => mkF m q Ls (v.toList ++ rest)) := by
  subst hq hst
  intro hZ T locs cells slots X eT
  have hZ' : Z.Warmed39 (s.setVm vm).vm := hZ
  obtain ⟨cell, i1, i2⟩ := E.cell
  have hpr : (s.setVm vm).PrivateAt y := Cond.privateMethod_at (mvP hZ' w3 (args := #[]))
  have hsel : (Cond.selects y.cls y y).before args (s.setVm vm) = true := by
    obtain ⟨c2, r2, m2, q1, q2, q3, q4, kP, hkP, hkPi⟩ := Cond.selects_spec (mvT hZ' wo (args := #[]))
    have hc := findClass_of_methodNamed q3
    rw [hz] at hc
    exact selects_self_of_private hc hkP hkPi hpr (mvT hZ' w2) hy
  refine ⟨fun {Pre Post} hK hpre => ?_, fun {Pre Post} hK hpre => ?_⟩
  · obtain ⟨v, vm₁, B', -, X', hP, st'⟩ := X.privateBack B.1 (B.fc hZ) (mvT hZ' w1) (mvT hZ' w2) hsel hpr (mvT hZ' w4) hy hK (g := mkF m pc Ls (argsL.reverse ++ .ref a :: rest)) rfl (hs.trans B.2.2.1.symm) (Steps.refl _) (by rw [eT]; exact i1) i2 hlen rfl (by show 2 * 0 + _ ≤ W; omega) (B.d hd) hpre
    exact ⟨v, vm₁, B', X', hP, st'⟩
  · obtain ⟨v, vm₁, B', -, X', h1, h2, hP, st'⟩ := X.privateBackS B.1 (B.fc hZ) (mvT hZ' w1) (mvT hZ' w2) hsel hpr (mvT hZ' w4) hy hK (g := mkF m pc Ls (argsL.reverse ++ .ref a :: rest)) rfl (hs.trans B.2.2.1.symm) (Steps.refl _) (by rw [eT]; exact i1) i2 hlen rfl (by show 2 * 0 + _ ≤ W; omega) (B.d hd) hpre
    exact ⟨v, vm₁, B', X', h1, h2, hP, st'⟩
theorem c_iface {xi : MethodName} {a : Addr} {K : String} {count : Nat} (B : Ctx Z a0 EL p m meth c own bytes ml ret nm) (E : Exa Z h a K) (w1 : (Cond.methodLink own index xi).before a0 Z = true) (w2 : (Cond.declares xi).before a0 Z = true) (w3 : (Cond.interfaceMethod xi.cls xi.cls xi.name xi.desc).before a0 Z = true) (w4 : (Cond.selects K xi y).before a0 Z = true) (w5 : (Cond.instanceMethod y).before a0 Z = true)
    (w6 : (Cond.publicMethod y).before a0 Z = true) (w7 : (Cond.unhidden K xi.name xi.desc).before a0 Z = true) (w8 : (Cond.castable K xi.cls).before a0 Z = true) (hw3 : ((Cond.interfaceMethod xi.cls xi.cls xi.name xi.desc).onTables && (Cond.interfaceMethod xi.cls xi.cls xi.name xi.desc).keepsFace) = true) (hy : xi.cls ≠ "java/lang/invoke/MethodHandle" ∧ xi.cls ≠ "java/lang/invoke/VarHandle") (hs : Ls.size = ml) (hlen : ∀ sig, parseMethodDescriptor xi.desc = some sig → argsL.length = sig.parameters.length) (hst : st = argsL.reverse ++ .ref a :: rest) (hW : (rest.map fun v => v.category).sum ≤ W)
    (hd : decode bytes pc = .ok (.invokeinterface index count, 5)) (hq : pc + 5 = q) : Call Z p l e R s m args below meth c vm h y 5 W (.ref a :: argsL).toArray (mkF m pc Ls st) (fun v => mkF m q Ls (v.toList ++ rest)) := by
  subst hq hst
  intro hZ T locs cells slots X eT
  have hZ' : Z.Warmed39 (s.setVm vm).vm := hZ
  obtain ⟨cB, kB, i1, i2, i3⟩ := isOf (s := s.setVm vm) hZ' eT E
  refine ⟨fun {Pre Post} hK hpre => ?_, fun {Pre Post} hK hpre => ?_⟩
  · obtain ⟨v, vm₁, B', -, X', hP, st'⟩ := X.interfaceBack B.1 (B.fc hZ) (mvT hZ' w1) (mvT hZ' w2) (mvT hZ' w3 hw3) (mvT hZ' w4) (mvT hZ' w5) (mvT hZ' w6) (mvT hZ' w7) (mvT hZ' w8) hy hK i1 i2 i3 (g := mkF m pc Ls (argsL.reverse ++ .ref a :: rest)) rfl (hs.trans B.2.2.1.symm) (Steps.refl _) hlen rfl (by show 2 * 0 + _ ≤ W; omega) (B.d hd) hpre
    exact ⟨v, vm₁, B', X', hP, st'⟩
  · obtain ⟨v, vm₁, B', -, X', h1, h2, hP, st'⟩ := X.interfaceBackS B.1 (B.fc hZ) (mvT hZ' w1) (mvT hZ' w2) (mvT hZ' w3 hw3) (mvT hZ' w4) (mvT hZ' w5) (mvT hZ' w6) (mvT hZ' w7) (mvT hZ' w8) hy hK i1 i2 i3 (g := mkF m pc Ls (argsL.reverse ++ .ref a :: rest)) rfl (hs.trans B.2.2.1.symm) (Steps.refl _) hlen rfl (by show 2 * 0 + _ ≤ W; omega) (B.d hd) hpre
    exact ⟨v, vm₁, B', X', h1, h2, hP, st'⟩
theorem nfs {y z : MethodName} {K : String} (w3 : (Cond.selects K y y).before a0 Z = true) : ∀ s' : State, Z.Warmed39 s'.vm → NotFace s' y := fun s' hZ => notFace_of_selects (args := #[]) (mvT hZ w3)
end CallSites
/-- a call that a law of the library's form pays -/
theorem g_pay {y : MethodName} {len W k n : Nat} {as : Array Value} {G : Option Value → JFrame} {Q' : Option Value → Heap → List Loc → Prop} (hc : Call Z p l e R s m args below meth c vm h y len W as g G)
    (hK : Z.Warmed39 (s.setVm vm).vm → Back l R p e below (s.setVm vm) args y len W (fun A a => a = as ∧ A.U.heap = h ∧ A.cells + k ≤ R.cells ∧ A.slots + n ≤ R.slots) (fun A _ v B => ∃ L, Q' v B.U.heap L ∧ B.locs = A.locs ++ L ∧ B.cells = A.cells + k ∧ B.slots = A.slots + n))
    (hcl : cells + k ≤ R.cells) (hsl : slots + n ≤ R.slots) (hF : ∀ v h' L, Q' v h' L → Fr n0 L ∧ ∃ ws, Keep h h' ws ∧ ∀ x ∈ ws, Safe Z EL vm h x)
    (kk : ∀ v h' L, Q' v h' L → Go wd Z EL p l e R s m args below meth c n0 C N Q vm h' (cells + k) (slots + n) (G v)) : Go wd Z EL p l e R s m args below meth c n0 C N Q vm h cells slots g := by
  intro W T locs X eT F
  obtain ⟨v, vm₁, ⟨U, L', k', n'⟩, X', ⟨L, hQ, e1, e2, e3⟩, st⟩ := (hc W.1 T locs cells slots X eT).1 (hK W.1) (fun vm₁ _ => ⟨rfl, eT, hcl, hsl⟩)
  dsimp only [Pt.U, Pt.locs, Pt.cells, Pt.slots] at X' hQ e1 e2 e3 st
  subst e1 e2 e3
  obtain ⟨F', ws, K, S⟩ := hF _ _ _ hQ
  obtain ⟨s₂, o, h1, r⟩ := kk v U.heap L hQ (W.keep S K) U _ X' rfl (Fr.app F F')
  exact ⟨s₂, o, st.trans h1, r⟩
/-- a call that a contract pays -/
theorem g_met {y : MethodName} {len W mL : Nat} {bs : ByteArray} {rt : Option FieldType} {rm : Room} {as : Array Value} {sf : List Addr} {G : Option Value → JFrame} {Q' : Option Value → Heap → Prop} (hEL : EW Z a0 EL) (hc : Call Z p l e R s m args below meth c vm h y len W as g G)
    (hM : Met wd Z EL l y bs mL rt rm as h sf n0 Q') (wc : (Cond.code y bs mL rt).before a0 Z = true) (wz : (Cond.initialized y.cls).before a0 Z = true) (hf : rm.frames + 1 ≤ R.frames) (hl : W + (mL + 11) + rm.locals ≤ R.locals)
    (hcl : cells + rm.cells ≤ R.cells) (hsl : slots + rm.slots ≤ R.slots) (hsf : ∀ x ∈ sf, Safe Z EL vm h x ∧ x < h.size)
    (kk : ∀ v h' vm', Z.Warmed39 vm' → CHr Z EL vm h vm' h' → Q' v h' → Go wd Z EL p l e R s m args below meth c n0 C N Q vm' h' (cells + rm.cells) (slots + rm.slots) (G v)) : Go wd Z EL p l e R s m args below meth c n0 C N Q vm h cells slots g := by
  intro Wt0 T locs X eT F
  obtain ⟨hZ, ⟨k0, hS, hk⟩, hR, hw⟩ := Wt0
  have hZ' : Z.Warmed39 (s.setVm vm).vm := hZ
  cases wd with
  | false =>
    obtain ⟨hv, rfl⟩ := hw rfl
    have hK : Back l R p e below (s.setVm vm) args y len W (fun A a => a = as ∧ A.U.heap = h ∧ A.cells + rm.cells ≤ R.cells ∧ A.slots + rm.slots ≤ R.slots) (fun A _ v B => ∃ L, (Q' v B.U.heap ∧ Fr n0 L ∧ h.size ≤ B.U.heap.size) ∧ B.locs = A.locs ++ L ∧ B.cells = A.cells + rm.cells ∧ B.slots = A.slots + rm.slots) :=
      Back.of_free (bytes := bs) (maxL := mL) (ret := rt) (E := fun _ U o t L k n => k = rm.cells ∧ n = rm.slots ∧ ∃ v, o = .returned v ∧ Q' v t.heap ∧ Fr n0 L ∧ U.heap.size ≤ t.heap.size) (hM []) hf hl
        (fun m meth c A a Y hp => have hU : Z.Warmed39 A.U.vm := wtrans hZ' Y.warmed
          ⟨by show (Cond.and _ .tt).before a A.U = true; rw [Cond.before_and, mv hU wc]; rfl, mv hU wc, mv hU wz, hp.2.2.1, hp.2.2.2⟩)
        (fun m meth c A a g mk Y hp => ⟨hp.1, wtrans hZ' Y.warmed, hp.2.1, fun _ q => (nomatch q), fun x hx => nos⟩) (fun _ _ _ _ _ _ _ _ _ => trivial)
        (fun _ _ _ _ ⟨v, L, h1, h2, h3, h4, h5⟩ => ⟨L, _, _, h5 rfl, rfl, rfl, v, h1, h2.1, h2.2, h3.2.1⟩)
        (fun m meth c A a g mk v t L k n Y hp _ _ ⟨e1, e2, v', e3, e4, e5, e6⟩ => by
          cases e3; subst e1 e2; exact ⟨L, ⟨e4, e5, by rw [← hp.2.1]; exact e6⟩, rfl, rfl, rfl⟩)
    obtain ⟨v, vm₁, ⟨U, L', k', n'⟩, X', ⟨L, ⟨hQ, F', hsz⟩, e1, e2, e3⟩, st⟩ := (hc hZ T locs cells slots X eT).1 hK (fun vm₁ _ => ⟨rfl, eT, hcl, hsl⟩)
    dsimp only [Pt.U, Pt.locs, Pt.cells, Pt.slots] at X' hQ e1 e2 e3 st hsz
    subst e1 e2 e3
    have hC : CHr Z [] vm h vm U.heap := ⟨fun _ q => (nomatch q), hsz, fun y q => absurd q (nos (vm := vm) (h := U.heap))⟩
    obtain ⟨s₂, o, h1, r⟩ := kk v U.heap vm hZ hC hQ ⟨hZ, ⟨k0, hS, Nat.le_trans hk hsz⟩, hR.trans hC, hw⟩ U _ X' rfl (Fr.app F F')
    exact ⟨s₂, o, st.trans h1, r⟩
  | true =>
    have hK : BackS l R p e below (s.setVm vm) args y len W (fun A a => a = as ∧ A.U.heap = h ∧ A.cells + rm.cells ≤ R.cells ∧ A.slots + rm.slots ≤ R.slots) (fun A _ v B => ∃ L, (Q' v B.U.heap ∧ Fr n0 L ∧ CHr Z EL vm h B.U.vm B.U.heap) ∧ B.locs = A.locs ++ L ∧ B.cells = A.cells + rm.cells ∧ B.slots = A.slots + rm.slots) :=
      BackS.of_freeW (bytes := bs) (maxL := mL) (ret := rt) (E := fun _ first o t L k n => k = rm.cells ∧ n = rm.slots ∧ (∃ v, o = .returned v ∧ Q' v t.heap ∧ Fr n0 L) ∧ CHr Z EL first.vm first.heap t.vm t.heap) (hM []) hf hl
        (fun m meth c A a Y hp => have hU : Z.Warmed39 A.U.vm := wtrans hZ' Y.warmed
          ⟨by show (Cond.and _ .tt).before a A.U = true; rw [Cond.before_and, mv hU wc]; rfl, mv hU wc, mv hU wz, hp.2.2.1, hp.2.2.2⟩)
        (fun m meth c A a g mk Y hp => have q := CHv.at Y hZ hEL hR.1; ⟨hp.1, wtrans hZ' Y.warmed, hp.2.1, q.1, fun x hx => q.safe (hsf x hx).2 (hsf x hx).1⟩) (fun _ _ _ _ _ _ _ _ _ => trivial)
        (fun _ _ _ _ ⟨v, L, h1, h2, h3, h4, h5⟩ => ⟨L, _, _, h4, rfl, rfl, ⟨v, h1, h2.1, h2.2⟩, h3⟩)
        (fun m meth c A a g mk v t L k n Y hp _ _ ⟨e1, e2, ⟨v', e3, e4, e4'⟩, e5⟩ => by
          cases e3; subst e1 e2
          refine ⟨L, ⟨e4, e4', (CHv.at Y hZ hEL hR.1).trans ?_⟩, rfl, rfl, rfl⟩
          rw [← hp.2.1]; exact e5)
    obtain ⟨v, vm₁, ⟨U, L', k', n'⟩, X', hS2, hgr, ⟨L, ⟨hQ, F', hC⟩, e1, e2, e3⟩, st⟩ := (hc hZ T locs cells slots X eT).2 hK (fun vm₁ _ => ⟨rfl, eT, hcl, hsl⟩)
    dsimp only [Pt.U, Pt.locs, Pt.cells, Pt.slots] at X' hQ e1 e2 e3 st hS2 hgr hC
    subst e1 e2 e3
    rw [eT] at hgr
    have hZ2 : Z.Warmed39 U.vm := State.Warmed39.trans (t := s.setVm vm) hZ hS2.1
    obtain ⟨s₂, o, h1, r⟩ := kk v U.heap U.vm hZ2 hC hQ ⟨hZ2, ⟨_, hS.trans hS2 (Nat.le_trans hk hgr), Nat.le_refl _⟩, hR.trans hC, fun q => (nomatch q)⟩ U _ X' rfl (Fr.app F F')
    exact ⟨s₂, o, st.trans h1, r⟩
/-- the same, narrow: the tables stay the start's -/
theorem g_metN {y : MethodName} {len W mL : Nat} {bs : ByteArray} {rt : Option FieldType} {rm : Room} {as : Array Value} {sf : List Addr} {G : Option Value → JFrame} {Q' : Option Value → Heap → Prop} (hc : Call Z p l e R s m args below meth c vm h y len W as g G)
    (hM : Met false Z [] l y bs mL rt rm as h sf n0 Q') (wc : (Cond.code y bs mL rt).before a0 Z = true) (wz : (Cond.initialized y.cls).before a0 Z = true) (hf : rm.frames + 1 ≤ R.frames) (hl : W + (mL + 11) + rm.locals ≤ R.locals)
    (hcl : cells + rm.cells ≤ R.cells) (hsl : slots + rm.slots ≤ R.slots)
    (kk : ∀ v h', h.size ≤ h'.size → Q' v h' → Go false Z [] p l e R s m args below meth c n0 C N Q vm h' (cells + rm.cells) (slots + rm.slots) (G v)) : Go false Z [] p l e R s m args below meth c n0 C N Q vm h cells slots g := by
  intro Wt0 T locs X eT F
  obtain ⟨hZ, ⟨k0, hS, hk⟩, hR, hw⟩ := Wt0
  have hZ' : Z.Warmed39 (s.setVm vm).vm := hZ
  obtain ⟨hv, -⟩ := hw rfl
  have hK : Back l R p e below (s.setVm vm) args y len W (fun A a => a = as ∧ A.U.heap = h ∧ A.cells + rm.cells ≤ R.cells ∧ A.slots + rm.slots ≤ R.slots) (fun A _ v B => ∃ L, (Q' v B.U.heap ∧ Fr n0 L ∧ h.size ≤ B.U.heap.size) ∧ B.locs = A.locs ++ L ∧ B.cells = A.cells + rm.cells ∧ B.slots = A.slots + rm.slots) :=
    Back.of_free (bytes := bs) (maxL := mL) (ret := rt) (E := fun _ U o t L k n => k = rm.cells ∧ n = rm.slots ∧ ∃ v, o = .returned v ∧ Q' v t.heap ∧ Fr n0 L ∧ U.heap.size ≤ t.heap.size) (hM []) hf hl
      (fun m meth c A a Y hp => have hU : Z.Warmed39 A.U.vm := wtrans hZ' Y.warmed
        ⟨by show (Cond.and _ .tt).before a A.U = true; rw [Cond.before_and, mv hU wc]; rfl, mv hU wc, mv hU wz, hp.2.2.1, hp.2.2.2⟩)
      (fun m meth c A a g mk Y hp => ⟨hp.1, wtrans hZ' Y.warmed, hp.2.1, fun _ q => (nomatch q), fun x hx => nos⟩) (fun _ _ _ _ _ _ _ _ _ => trivial)
      (fun _ _ _ _ ⟨v, L, h1, h2, h3, h4, h5⟩ => ⟨L, _, _, h5 rfl, rfl, rfl, v, h1, h2.1, h2.2, h3.2.1⟩)
      (fun m meth c A a g mk v t L k n Y hp _ _ ⟨e1, e2, v', e3, e4, e5, e6⟩ => by
        cases e3; subst e1 e2; exact ⟨L, ⟨e4, e5, by rw [← hp.2.1]; exact e6⟩, rfl, rfl, rfl⟩)
  obtain ⟨v, vm₁, ⟨U, L', k', n'⟩, X', ⟨L, ⟨hQ, F', hsz⟩, e1, e2, e3⟩, st⟩ := (hc hZ T locs cells slots X eT).1 hK (fun vm₁ _ => ⟨rfl, eT, hcl, hsl⟩)
  dsimp only [Pt.U, Pt.locs, Pt.cells, Pt.slots] at X' hQ e1 e2 e3 st hsz
  subst e1 e2 e3
  have hC : CHr Z [] vm h vm U.heap := ⟨fun _ q => (nomatch q), hsz, fun y q => absurd q (nos (vm := vm) (h := U.heap))⟩
  obtain ⟨s₂, o, h1, r⟩ := kk v U.heap hsz hQ ⟨hZ, ⟨k0, hS, Nat.le_trans hk hsz⟩, hR.trans hC, hw⟩ U _ X' rfl (Fr.app F F')
  exact ⟨s₂, o, st.trans h1, r⟩
/-- a narrow contract pays a call in either frame; the tables stay -/
theorem g_metP {y : MethodName} {len W mL : Nat} {bs : ByteArray} {rt : Option FieldType} {rm : Room} {as : Array Value} {sf : List Addr} {G : Option Value → JFrame} {Q' : Option Value → Heap → Prop} (hc : Call Z p l e R s m args below meth c vm h y len W as g G)
    (hM : Met false Z [] l y bs mL rt rm as h sf n0 Q') (wc : (Cond.code y bs mL rt).before a0 Z = true) (wz : (Cond.initialized y.cls).before a0 Z = true) (hf : rm.frames + 1 ≤ R.frames) (hl : W + (mL + 11) + rm.locals ≤ R.locals)
    (hcl : cells + rm.cells ≤ R.cells) (hsl : slots + rm.slots ≤ R.slots) (hKp : ∀ v h', Q' v h' → ∃ ws, Keep h h' ws ∧ ∀ x ∈ ws, Safe Z EL vm h x)
    (kk : ∀ v h', h.size ≤ h'.size → Q' v h' → Go wd Z EL p l e R s m args below meth c n0 C N Q vm h' (cells + rm.cells) (slots + rm.slots) (G v)) : Go wd Z EL p l e R s m args below meth c n0 C N Q vm h cells slots g := by
  refine g_pay (Q' := fun v h' L => Q' v h' ∧ Fr n0 L ∧ h.size ≤ h'.size) hc (fun hZ' => ?_) hcl hsl (fun v h' L q => ⟨q.2.1, hKp v h' q.1⟩) (fun v h' L q => kk v h' q.2.2 q.1)
  exact Back.of_free (bytes := bs) (maxL := mL) (ret := rt) (E := fun _ U o t L k n => k = rm.cells ∧ n = rm.slots ∧ ∃ v, o = .returned v ∧ Q' v t.heap ∧ Fr n0 L ∧ U.heap.size ≤ t.heap.size) (hM []) hf hl
      (fun m meth c A a Y hp => have hU : Z.Warmed39 A.U.vm := wtrans hZ' Y.warmed
        ⟨by show (Cond.and _ .tt).before a A.U = true; rw [Cond.before_and, mv hU wc]; rfl, mv hU wc, mv hU wz, hp.2.2.1, hp.2.2.2⟩)
      (fun m meth c A a g mk Y hp => ⟨hp.1, wtrans hZ' Y.warmed, hp.2.1, fun _ q => (nomatch q), fun x hx => nos⟩) (fun _ _ _ _ _ _ _ _ _ => trivial)
      (fun _ _ _ _ ⟨v, L, h1, h2, h3, h4, h5⟩ => ⟨L, _, _, h5 rfl, rfl, rfl, v, h1, h2.1, h2.2, h3.2.1⟩)
      (fun m meth c A a g mk v t L k n Y hp _ _ ⟨e1, e2, v', e3, e4, e5, e6⟩ => by
        cases e3; subst e1 e2; exact ⟨L, ⟨e4, e5, by rw [← hp.2.1]; exact e6⟩, rfl, rfl, rfl⟩)
theorem catR {v : Value} (h : v.isRef = true) : v.category = 1 := by rcases ref_cases h with rfl | ⟨a, rfl⟩ <;> rfl
/-- a reference, which may be null, over a slot of one word -/
theorem stV {l : Array Slot} {i : Nat} {v : Value} (h : v.isRef = true) (ho : l[i]? = some .unset ∨ ∃ w, l[i]? = some (.val w) ∧ w.category = 1) : storeLocals l i v = some (l.setIfInBounds i (.val v)) := by
  rcases ho with ho | ⟨w, ho, hc⟩
  · exact XS.store1 ho (Or.inl rfl) (catR h)
  · exact XS.store1 ho (Or.inr ⟨w, rfl, hc⟩) (catR h)
theorem nb {x : Int32} (h : x = 0 ∨ x = 1) : narrow .boolean (.int x) = .int x ∧ fits .boolean (.int x) = true := by
  rcases h with rfl | rfl <;> exact ⟨rfl, rfl⟩
end Calc
end Jvm.Own
/- laws to paste: Road.lenW, pair_says, narrow_ch, lo8_mask, shr0 (cut by pick.py; bodies as the Statement names them) -/
namespace Jvm.Pilot.@@N@@
namespace StrChars
open Jvm Sem ClassFile Op Lib Jvm.Stand Jvm.Free.XT Jvm.Free.ALB Jvm.Free.JM Jvm.Free
open Jvm.Lib.Cold (StaticIs)
/-- the byte that i2b leaves of a char -/
def lo8 (x : Int32) : Int32 := x.toInt8.toInt32
def U16 : String := "java/lang/StringUTF16"
namespace Cmp5
def yN : MethodName := ⟨"java/lang/StringUTF16", "compress", "([CI[BII)I"⟩
abbrev yB : ByteArray := jdk_52_method_21_code
end Cmp5
namespace Cmp3
def yN : MethodName := ⟨"java/lang/StringUTF16", "compress", "([CII)[B"⟩
abbrev yB : ByteArray := jdk_52_method_16_code
end Cmp3
namespace CodL
def yN : MethodName := ⟨"java/lang/StringUTF16", "coderFromArrayLen", "([BI)B"⟩
abbrev yB : ByteArray := jdk_52_method_15_code
end CodL
namespace New4
def yN : MethodName := ⟨"java/lang/String", "<init>", "([CIILjava/lang/Void;)V"⟩
abbrev yB : ByteArray := jdk_42_method_149_code
end New4
namespace New1
def yN : MethodName := ⟨"java/lang/String", "<init>", "([C)V"⟩
abbrev yB : ByteArray := jdk_42_method_3_code
end New1
/-- the byte, read back as charAt reads it, is the char -/
theorem lo8_mask {x : Int32} (h0 : ¬ x < 0) (h1 : ¬ 255 < x) : lo8 x &&& 255 = x := by
  have t : ∀ k : Fin 256, lo8 (Int32.ofNat k.val) &&& 255 = Int32.ofNat k.val := by decide +kernel
  rw [Int32.lt_iff_toInt_lt] at h0 h1
  have e0 : (0 : Int32).toInt = 0 := rfl
  have e1 : (255 : Int32).toInt = 255 := rfl
  obtain ⟨k, hk⟩ : ∃ k : Nat, x.toInt = k := ⟨x.toInt.toNat, by omega⟩
  have hx : x = Int32.ofNat k := Int32.toInt_inj.mp (by rw [hk, Int32.toInt_ofNat_small (by omega)])
  rw [hx]
  exact t ⟨k, by omega⟩
end StrChars
namespace StrChars.Road
open Jvm Sem ClassFile Op Lib Jvm.Stand Jvm.Free Jvm.Free.XT
open Jvm.Lib.Cold (StaticIs)
abbrev ST : String := "java/lang/String"
/-- every table word that New1's law asks, flat -/
abbrev words : List Jvm.Cond := [.code New1.yN New1.yB 2 none, .initialized ST, .methodLink ST 27 New4.yN, .instanceMethod New4.yN,
  .code New4.yN New4.yB 6 none, .fieldLink ST 38 ST "COMPACT_STRINGS" "Z", .laysFinal ST ST "value" "[B", .fieldLink ST 9 ST "value" "[B", .laysFinal ST ST "coder" "B", .fieldLink ST 15 ST "coder" "B",
  .methodLink ST 1 Lib.objectInit, .instanceMethod Lib.objectInit, .code Lib.objectInit ⟨#[0xb1]⟩ 1 none, .methodLink ST 177 Cmp3.yN, .static Cmp3.yN, .methodLink ST 47 CodL.yN, .static CodL.yN,
  .code Cmp3.yN Cmp3.yB 6 (some (.array .byte)), .initialized U16, .arrayClass .byte, .methodLink U16 115 Cmp5.yN, .static Cmp5.yN, .code Cmp5.yN Cmp5.yB 7 (some .int), .code CodL.yN CodL.yB 2 (some .byte)]
end StrChars.Road
namespace StrChars
open Jvm Sem ClassFile Op Lib Jvm.Stand Jvm.Free.XT Jvm.Free.ALB Jvm.Free.JM Jvm.Free
open Jvm.Lib.Cold (StaticIs)
def hi8 (x : Int32) : Int32 := lo8 (x >>> ((8 : Int32) &&& 31))
/-- what StringUTF16.getChar makes of two bytes -/
def pairCh (u v : Int32) : Int32 := (((u &&& 255) <<< ((0 : Int32) &&& 31)) ||| ((v &&& 255) <<< ((8 : Int32) &&& 31))).toUInt32.toUInt16.toUInt32.toInt32
theorem shr0 (c : Int32) : c >>> ((0 : Int32) &&& 31) = c := by
  have e : ((0 : Int32) &&& 31) = 0 := by decide
  rw [e]
  apply Int32.toBitVec_inj.mp
  rw [Int32.toBitVec_shiftRight]
  have e1 : ((0 : Int32).toBitVec.smod 32) = 0#32 := by decide
  rw [e1, BitVec.sshiftRight_eq']
  exact BitVec.sshiftRight_zero
theorem lo8_and (x : Int32) : (lo8 x &&& 255).toBitVec.toNat = x.toBitVec.toNat % 256 := by
  have h : (lo8 x).toBitVec = (x.toBitVec.signExtend 8).signExtend 32 := by rw [lo8, Int8.toBitVec_toInt32, Int32.toBitVec_toInt8]
  rw [Int32.toBitVec_and, BitVec.toNat_and, h]
  have e : ((x.toBitVec.signExtend 8).signExtend 32).toNat % 256 = x.toBitVec.toNat % 256 := by
    rw [BitVec.toNat_signExtend]
    have hlt := x.toBitVec.isLt
    simp only [BitVec.toNat_setWidth, BitVec.toNat_signExtend]
    split <;> split <;> omega
  rw [← e]
  exact Nat.and_two_pow_sub_one_eq_mod _ 8
theorem pair_says {c : Int32} (h0 : ¬ c < 0) (h1 : ¬ 65535 < c) : pairCh (lo8 c) (hi8 c) = c := by
  rw [Int32.lt_iff_toInt_lt] at h0 h1
  have e0 : (0 : Int32).toInt = 0 := rfl
  have e1 : (65535 : Int32).toInt = 65535 := rfl
  have hc : c.toInt = c.toBitVec.toNat := by
    have := c.toBitVec.isLt
    have e : c.toInt = c.toBitVec.toInt := rfl
    rw [e] at h0 h1
    rw [e]
    rw [BitVec.toInt_eq_toNat_cond] at h0 h1 ⊢
    split at h0 <;> split <;> omega
  have hn : c.toBitVec.toNat < 65536 := by omega
  have a1 := lo8_and c
  have a2 : (hi8 c &&& 255).toBitVec.toNat = c.toBitVec.toNat / 256 := by
    rw [hi8, lo8_and]
    have e : ((8 : Int32) &&& 31) = 8 := by decide
    rw [e, Int32.toBitVec_shiftRight]
    have e2 : ((8 : Int32).toBitVec.smod 32) = 8#32 := by decide
    rw [e2, BitVec.sshiftRight_eq', BitVec.toNat_sshiftRight_of_msb_false (by rw [BitVec.msb_eq_false_iff_two_mul_lt]; omega)]
    show c.toBitVec.toNat >>> 8 % 256 = _
    rw [Nat.shiftRight_eq_div_pow]
    omega
  unfold pairCh
  apply Int32.toBitVec_inj.mp
  apply BitVec.eq_of_toNat_eq
  have f0 : ((0 : Int32) &&& 31) = 0 := by decide
  have f8 : ((8 : Int32) &&& 31) = 8 := by decide
  rw [f0, f8]
  have g : (((lo8 c &&& 255) <<< (0 : Int32)) ||| ((hi8 c &&& 255) <<< (8 : Int32))).toBitVec.toNat = c.toBitVec.toNat := by
    rw [Int32.toBitVec_or, Int32.toBitVec_shiftLeft, Int32.toBitVec_shiftLeft]
    have s0 : ((0 : Int32).toBitVec.smod 32) = 0#32 := by decide
    have s8 : ((8 : Int32).toBitVec.smod 32) = 8#32 := by decide
    rw [s0, s8, BitVec.toNat_or]
    simp only [BitVec.shiftLeft_eq', BitVec.toNat_shiftLeft, a1, a2]
    show (c.toBitVec.toNat % 256) <<< 0 % 2 ^ 32 ||| (c.toBitVec.toNat / 256) <<< 8 % 2 ^ 32 = _
    rw [Nat.shiftLeft_zero, Nat.mod_eq_of_lt (show c.toBitVec.toNat % 256 < 2 ^ 32 by omega), Nat.mod_eq_of_lt (show (c.toBitVec.toNat / 256) <<< 8 < 2 ^ 32 by rw [Nat.shiftLeft_eq]; omega), Nat.or_comm, ← Nat.shiftLeft_add_eq_or_of_lt (by omega), Nat.shiftLeft_eq]
    omega
  show BitVec.toNat (((((lo8 c &&& 255) <<< (0 : Int32)) ||| ((hi8 c &&& 255) <<< (8 : Int32))).toBitVec.setWidth 16).setWidth 32) = _
  rw [BitVec.toNat_setWidth, BitVec.toNat_setWidth, g]
  omega
end StrChars
namespace StrChars
open Jvm Sem ClassFile Op Lib Jvm.Stand Jvm.Free.XT Jvm.Free.ALB Jvm.Free.JM Jvm.Free
open Jvm.Lib.Cold (StaticIs)
theorem shr1 {n : Nat} (h : 2 * n < 2 ^ 31) : Int32.ofNat (2 * n) >>> ((1 : Int32) &&& 31) = Int32.ofNat n := by
  have e : ((1 : Int32) &&& 31) = 1 := by decide
  rw [e]
  apply Int32.toBitVec_inj.mp
  rw [Int32.toBitVec_shiftRight]
  have e1 : ((1 : Int32).toBitVec.smod 32) = 1#32 := by decide
  have hm : (BitVec.ofNat 32 (2 * n)).toNat = 2 * n := by rw [BitVec.toNat_ofNat, Nat.mod_eq_of_lt (by omega)]
  rw [e1, BitVec.sshiftRight_eq']
  apply BitVec.eq_of_toNat_eq
  show ((BitVec.ofNat 32 (2 * n)).sshiftRight 1).toNat = (BitVec.ofNat 32 n).toNat
  rw [BitVec.toNat_sshiftRight_of_msb_false (by rw [BitVec.msb_eq_false_iff_two_mul_lt, hm]; omega), hm, BitVec.toNat_ofNat, Nat.shiftRight_eq_div_pow]
  omega
theorem narrow_ch {c : Int32} (h0 : ¬ c < 0) (h1 : ¬ 65535 < c) : narrow .char (.int c) = .int c := by
  have q : narrow .char (.int (pairCh (lo8 c) (hi8 c))) = .int (pairCh (lo8 c) (hi8 c)) := narrow_c _
  rwa [pair_says h0 h1] at q
/-- the array's cell V codes the n chars f 0 .. f (n - 1) by the coder cd, as the JDK does: coder 1 just where some char is above 255 -/
def Cod (cd : Int32) (n : Nat) (f : Nat → Int32) (V : Cell) : Prop := (cd = 0 ∧ V.slots.size = n ∧ ∀ j, j < n → V.slots[j]? = some (.int (lo8 (f j))) ∧ ¬ 255 < f j) ∨ (cd = 1 ∧ V.slots.size = 2 * n ∧ (∀ j, j < n → V.slots[2 * j]? = some (.int (lo8 (f j))) ∧ V.slots[2 * j + 1]? = some (.int (hi8 (f j)))) ∧ ∃ j, j < n ∧ 255 < f j)
theorem Cod.cd {cd : Int32} {n : Nat} {f : Nat → Int32} {V : Cell} (h : Cod cd n f V) : cd = 0 ∨ cd = 1 := h.imp (fun q => q.1) fun q => q.1
theorem Cod.len {cd : Int32} {n : Nat} {f : Nat → Int32} {V : Cell} (h : Cod cd n f V) (hs : V.slots.size < 2 ^ 31) : Int32.ofNat V.slots.size >>> (cd &&& 31) = Int32.ofNat n := by
  rcases h with ⟨rfl, h, -⟩ | ⟨rfl, h, -⟩
  · rw [shr0, h]
  · rw [h, shr1 (by omega)]
/-- **x is a String of the n chars f 0 .. f (n - 1)**, Latin-1 or UTF-16; its array at t has the cell V -/
def Txt (x t : Addr) (V : Cell) (cd : Int32) (n : Nat) (f : Nat → Int32) (U : State) : Prop := Exact "java/lang/String" x U ∧ Has x "java/lang/String" "value" "[B" (.ref t) U ∧ Has x "java/lang/String" "coder" "B" (.int cd) U ∧ XT.Arr .byte t V U ∧ Cod cd n f V ∧ ∀ j, j < n → ¬ f j < 0 ∧ ¬ 65535 < f j
theorem Txt.mv {x t : Addr} {V : Cell} {cd : Int32} {n : Nat} {f : Nat → Int32} {U U' : State} (h : Txt x t V cd n f U) (hal : U.vm.Alike U'.vm) (hh : U'.heap = U.heap) : Txt x t V cd n f U' := ⟨h.1.mv hal hh, h.2.1.mv hal hh, h.2.2.1.mv hal hh, h.2.2.2.1.mv hal hh, h.2.2.2.2⟩
namespace Cdr
def yN : MethodName := ⟨"java/lang/String", "coder", "()B"⟩
abbrev yB : ByteArray := jdk_42_method_152_code
theorem d0 : decode yB 0 = .ok (.getstatic 38, 3) := by decide +kernel
theorem d3 : decode yB 3 = .ok (.ifCond (.eq) 10, 3) := by decide +kernel
theorem d6 : decode yB 6 = .ok (.aload_n 0, 1) := by decide +kernel
theorem d7 : decode yB 7 = .ok (.getfield 15, 3) := by decide +kernel
theorem d10 : decode yB 10 = .ok (.goto 4, 3) := by decide +kernel
theorem d14 : decode yB 14 = .ok (.ireturn, 1) := by decide +kernel
def site : List Cond := [.fieldLink "java/lang/String" 38 "java/lang/String" "COMPACT_STRINGS" "Z", .fieldLink "java/lang/String" 15 "java/lang/String" "coder" "B"]
def tab : Cond := tabOf yN yB 1 (some .byte) site
def P (x : Addr) (cd z : Int32) (args : Array Value) (s : State) : Prop := args = #[.ref x] ∧ Has x "java/lang/String" "coder" "B" (.int cd) s ∧ (cd = 0 ∨ cd = 1) ∧ StaticIs s "java/lang/String" "COMPACT_STRINGS" "Z" (.int z) ∧ ¬ z = 0
def E (cd : Int32) (r : Option Value) (s u : State) : Prop := XT.PureE (some (.int cd)) r s u
theorem law (l : Launch) (x : Addr) (cd z : Int32) : Law l yN 1 0 0 0 yB 1 (some .byte) site (P x cd z) (E cd) [] 0 0 := by
  refine Law.of_walk (plainFor_of_name (by decide +kernel)) (by decide +kernel) (by decide +kernel) (by decide) (fun _ _ h => by rw [h.1]; rfl) (fun _ U U' hal hh h => ⟨h.1, h.2.1.mv hal hh, h.2.2.1, h.2.2.2.1.there hal hh, h.2.2.2.2⟩) (fun r U U' V V' h1 hal h2 h => XT.PureE.mv r U U' V V' h1 hal h2 h) ?_
  intro p e s m args below meth c s₁ X0 hexec hbytes hml hret hlk hnm hown hh0 W hP
  obtain ⟨rfl, hx, hc, s1, hz⟩ := hP
  have c1 : Steps p.tables e below (s₁.setTop (entryFrame m #[.ref x] 1)) (s₁.setTop (mkF m 0 #[.val (.ref x)] [])) := entry rfl
  obtain ⟨T2, X2, q2, st2⟩ := X0.sget hexec hown (wk W (.fieldLink "java/lang/String" 38 "java/lang/String" "COMPACT_STRINGS" "Z")) s1 (fun _ _ h => by rw [hh0]; exact h) (g := (mkF m 0 #[.val (.ref x)] [])) rfl (hb hbytes d0)
  have hh2 := q2.trans hh0
  have c3 : Steps p.tables e below (s₁.setTop (entryFrame m #[.ref x] 1)) (T2.setTop (mkF m 7 #[.val (.ref x)] [.ref x])) := (c1.trans (st2 _ (Steps.refl _))).trans (by
    refine XS.ifNo X2.here hexec rfl (hb hbytes d3) rfl (i0_eq_f hz) ?_
    refine XS.aloadN X2.here hexec rfl (hb hbytes d6) rfl rfl ?_
    exact Steps.refl _)
  obtain ⟨T4, X4, q4, st4⟩ := X2.hget hexec hown (wk W (.fieldLink "java/lang/String" 15 "java/lang/String" "coder" "B")) (hx.mv X2.warmed.alike hh2) (g := (mkF m 7 #[.val (.ref x)] [.ref x])) rfl (rest := []) rfl (hb hbytes d7)
  have c5 : Steps p.tables e below (s₁.setTop (entryFrame m #[.ref x] 1)) (T4.setTop (mkF m 14 #[.val (.ref x)] [.int cd])) := (c3.trans (st4 _ (Steps.refl _))).trans (by
    refine XS.goto X4.here hexec rfl (pc0 := 10) rfl (hb hbytes d10) (by decide) rfl ?_
    exact Steps.refl _)
  exact ⟨T4, some (.int cd), _, _, _, X4, rfl, rfl, rfl, (fun h => by cases h), ⟨rfl, q4.trans hh2⟩, fun fs hl => c5.trans (X4.ireturnOut hexec hret (by rcases hc with rfl | rfl <;> rfl) (Or.inr (Or.inr (Or.inl rfl))) (hb hbytes d14) hl)⟩
end Cdr
namespace Len
def yN : MethodName := ⟨"java/lang/String", "length", "()I"⟩
abbrev yB : ByteArray := jdk_42_method_54_code
theorem d0 : decode yB 0 = .ok (.aload_n 0, 1) := by decide +kernel
theorem d1 : decode yB 1 = .ok (.getfield 9, 3) := by decide +kernel
theorem d4 : decode yB 4 = .ok (.arraylength, 1) := by decide +kernel
theorem d5 : decode yB 5 = .ok (.aload_n 0, 1) := by decide +kernel
theorem d6 : decode yB 6 = .ok (.invokevirtual 335, 3) := by decide +kernel
theorem d9 : decode yB 9 = .ok (.ishr, 1) := by decide +kernel
theorem d10 : decode yB 10 = .ok (.ireturn, 1) := by decide +kernel
def site : List Cond := [.fieldLink "java/lang/String" 9 "java/lang/String" "value" "[B", Cdr.tab] ++ virtW "java/lang/String" 335 "java/lang/String" Cdr.yN Cdr.yN
def tab : Cond := tabOf yN yB 1 (some .int) site
def P (x t : Addr) (V : Cell) (cd : Int32) (n : Nat) (f : Nat → Int32) (z : Int32) (args : Array Value) (s : State) : Prop := args = #[.ref x] ∧ Txt x t V cd n f s ∧ StaticIs s "java/lang/String" "COMPACT_STRINGS" "Z" (.int z) ∧ ¬ z = 0
def E (n : Nat) (r : Option Value) (s u : State) : Prop := XT.PureE (some (.int (Int32.ofNat n))) r s u
/-- length() of a String of n chars, in either coding -/
theorem law (l : Launch) (x t : Addr) (V : Cell) (cd : Int32) (n : Nat) (f : Nat → Int32) (z : Int32) : Law l yN 1 0 1 13 yB 1 (some .int) site (P x t V cd n f z) (E n) [] 0 0 := by
  refine Law.of_walk (plainFor_of_name (by decide +kernel)) (by decide +kernel) (by decide +kernel) (by decide) (fun _ _ h => by rw [h.1]; rfl) (fun _ U U' hal hh h => ⟨h.1, h.2.1.mv hal hh, h.2.2.1.there hal hh, h.2.2.2⟩) (fun r U U' V V' h1 hal h2 h => XT.PureE.mv r U U' V V' h1 hal h2 h) ?_
  intro p e s m args below meth c s₁ X0 hexec hbytes hml hret hlk hnm hown hh0 W hP
  obtain ⟨rfl, hx, s1, hz⟩ := hP
  have v31 := hx.2.2.2.1.2.2.2
  have c1 : Steps p.tables e below (s₁.setTop (entryFrame m #[.ref x] 1)) (s₁.setTop (mkF m 1 #[.val (.ref x)] [.ref x])) := Steps.trans (entry rfl) (by
    show Steps p.tables e below (s₁.setTop (mkF m 0 #[.val (.ref x)] [])) _
    refine XS.aloadN X0.here hexec rfl (hb hbytes d0) rfl rfl ?_
    exact Steps.refl _)
  obtain ⟨T2, X2, q2, st2⟩ := X0.hget hexec hown (wk W (.fieldLink "java/lang/String" 9 "java/lang/String" "value" "[B")) (hx.mv X0.warmed.alike hh0).2.1 (g := (mkF m 1 #[.val (.ref x)] [.ref x])) rfl (rest := []) rfl (hb hbytes d1)
  have hh2 := q2.trans hh0
  have hx2 := hx.mv X2.warmed.alike hh2
  have c3 : Steps p.tables e below (s₁.setTop (entryFrame m #[.ref x] 1)) (T2.setTop (mkF m 6 #[.val (.ref x)] [.ref x, .int (Int32.ofNat V.slots.size)])) := (c1.trans (st2 _ (Steps.refl _))).trans (by
    refine X2.alen hexec hx2.2.2.2.1 rfl rfl (hb hbytes d4) ?_
    refine XS.aloadN X2.here hexec rfl (hb hbytes d5) rfl rfl ?_
    exact Steps.refl _)
  obtain ⟨v4, T4, X4, E4, g4⟩ := X2.callV hexec (Cdr.law l x cd z) hown (wks W (virtW "java/lang/String" 335 "java/lang/String" Cdr.yN Cdr.yN)) rfl (by decide) (wk W Cdr.tab) (W := 1) (Nat.le_of_ble_eq_true rfl) (Nat.le_of_ble_eq_true rfl) (Nat.le_refl _) (Nat.le_refl _) (hx2.1.fc X2.warmed.alike) hx2.1.is (g := (mkF m 6 #[.val (.ref x)] [.ref x, .int (Int32.ofNat V.slots.size)])) rfl (by rw [hml]; rfl) c3 (argsL := []) (rest := [.int (Int32.ofNat V.slots.size)]) rfl rfl (by show 2 * 0 + (1 + 0) ≤ _; decide) (hb hbytes d6) (⟨rfl, hx2.2.2.1, hx.2.2.2.2.1.cd, s1.there X2.warmed.alike hh2, hz⟩)
  obtain ⟨rfl, q4⟩ := E4
  have c5 : Steps p.tables e below (s₁.setTop (entryFrame m #[.ref x] 1)) (T4.setTop (mkF m 10 #[.val (.ref x)] [.int (Int32.ofNat V.slots.size >>> (cd &&& 31))])) := Steps.trans g4 (by
    refine ishr X4.here hexec rfl (hb hbytes d9) rfl ?_
    exact Steps.refl _)
  rw [hx.2.2.2.2.1.len v31] at c5
  exact ⟨T4, some (.int (Int32.ofNat n)), _, _, _, X4, rfl, rfl, rfl, (fun h => by cases h), ⟨rfl, q4.trans hh2⟩, fun fs hl => c5.trans (X4.ireturnOut hexec hret rfl (Or.inl rfl) (hb hbytes d10) hl)⟩
theorem pays {l : Launch} {R : Room} {p : Program} {e : Env} {below : List Frame} {s : State} {sargs : Array Value} {len W : Nat} (x t : Addr) (V : Cell) (cd : Int32) (n : Nat) (f : Nat → Int32) (z : Int32) (htab : tab.before sargs s = true) (hfr : 2 ≤ R.frames) (hlo : W + 25 ≤ R.locals) :
    Back l R p e below s sargs yN len W (fun A₁ a₁ => A₁.cells + 0 ≤ R.cells ∧ A₁.slots + 0 ≤ R.slots ∧ P x t V cd n f z a₁ A₁.U) (fun A₁ _ v₁ B₁ => E n v₁ A₁.U B₁.U ∧ B₁.locs = A₁.locs ++ [] ∧ B₁.cells = A₁.cells + 0 ∧ B₁.slots = A₁.slots + 0) :=
  (law l x t V cd n f z).pays htab hfr (by omega)
end Len
end StrChars
namespace StrChars.Road
open Jvm Sem ClassFile Op Lib Jvm.Stand Jvm.Free Jvm.Free.XT
open Jvm.Lib.Cold (StaticIs)
theorem consq {a : Array Value} {s : State} {c : Jvm.Cond} {L : List Jvm.Cond} (h0 : c.before a s = true) (h : ∀ w ∈ L, w.before a s = true) : ∀ w ∈ c :: L, w.before a s = true := fun w hw => (List.mem_cons.mp hw).elim (fun e => e ▸ h0) (h w)
/-- the words of String.length(), either coding -/
abbrev wordsLen : List Jvm.Cond := [.code Len.yN Len.yB 1 (some .int), .initialized ST, .fieldLink ST 9 ST "value" "[B", .fieldLink ST 38 ST "COMPACT_STRINGS" "Z", .fieldLink ST 15 ST "coder" "B", .code Cdr.yN Cdr.yB 1 (some .byte), .methodLink ST 335 Cdr.yN, .declares Cdr.yN, .selects ST Cdr.yN Cdr.yN, .instanceMethod Cdr.yN]
theorem tabLen_of {a : Array Value} {s : State} (h : ∀ w ∈ wordsLen, w.before a s = true) : Len.tab.before a s = true := by
  have hc : Cdr.tab.before a s = true := unparts (wk h (.code Cdr.yN Cdr.yB 1 (some .byte))) (wks h (.initialized Cdr.yN.cls :: Cdr.site))
  have q := consq hc h
  exact unparts (wk q (.code Len.yN Len.yB 1 (some .int))) (wks q (.initialized Len.yN.cls :: Len.site))
theorem movedLen {Z s : State} {a0 args : Array Value} (hZ : Z.Warmed39 s.vm) (hw : ∀ d ∈ wordsLen, d.before a0 Z = true) : ∀ d ∈ wordsLen, d.before args s = true := fun d hd => by
  have q := hw d hd
  have t : ∀ d ∈ wordsLen, d = .arrayClass .byte ∨ (d.onTables && d.keepsFace) = true := by decide +kernel
  rcases t d hd with rfl | t
  · exact RoadKit.mvA hZ q
  · exact RoadKit.mv hZ q t
/-- the bytes of the chars cs, low before high -/
def wideBytes : List Int32 → List Value
  | [] => []
  | c :: cs => .int (lo8 c) :: .int (hi8 c) :: wideBytes cs
theorem wide_lo (d : Value) : ∀ (cs : List Int32) (j : Nat), j < cs.length → (wideBytes cs).getD (2 * j) d = .int (lo8 (cs.getD j 0))
  | [], j, h => absurd h (Nat.not_lt_zero j)
  | c :: cs, 0, _ => rfl
  | c :: cs, j + 1, h => by
    have q := wide_lo d cs j (by simpa using h)
    rw [show 2 * (j + 1) = 2 * j + 1 + 1 from by omega]
    simpa [wideBytes] using q
theorem wide_hi (d : Value) : ∀ (cs : List Int32) (j : Nat), j < cs.length → (wideBytes cs).getD (2 * j + 1) d = .int (hi8 (cs.getD j 0))
  | [], j, h => absurd h (Nat.not_lt_zero j)
  | c :: cs, 0, _ => rfl
  | c :: cs, j + 1, h => by
    have q := wide_hi d cs j (by simpa using h)
    rw [show 2 * (j + 1) + 1 = 2 * j + 1 + 1 + 1 from by omega]
    simpa [wideBytes] using q
theorem low_at (d : Value) (cs : List Int32) (j : Nat) (h : j < cs.length) : (cs.map fun c => Value.int (lo8 c)).getD j d = .int (lo8 (cs.getD j 0)) := by
  simp [List.getD_eq_getElem?_getD, h]
/-- an array of N2 bytes vs codes the chars cs by the coder cd -/
def CodA (cs : List Int32) (cd N2 : Int32) (vs : List Value) : Prop := (cd = 0 ∧ N2 = Int32.ofNat cs.length ∧ vs = (cs.map fun c => Value.int (lo8 c)) ∧ ∀ c ∈ cs, ¬ 255 < c) ∨ (cd = 1 ∧ N2 = Int32.ofNat (2 * cs.length) ∧ vs = wideBytes cs ∧ ∃ c ∈ cs, 255 < c)
theorem CodA.cod {cs : List Int32} {cd N2 : Int32} {vs : List Value} {V : Cell} (h : CodA cs cd N2 vs) (hn : 2 * cs.length < 2 ^ 31) (hs : V.slots.size = N2.toNatClampNeg) (hv : RoadKit.Has V vs (.int 0)) : Cod cd cs.length (fun j => cs.getD j 0) V := by
  rcases h with ⟨rfl, rfl, rfl, h⟩ | ⟨rfl, rfl, rfl, c, hc, hw⟩
  · rw [n32 (by omega)] at hs
    exact Or.inl ⟨rfl, hs, fun j hj => ⟨by rw [hv j (by omega), low_at _ _ _ hj], by
      have e : cs.getD j 0 = cs[j] := by simp [List.getD_eq_getElem?_getD, hj]
      show ¬ 255 < cs.getD j 0
      rw [e]; exact h _ (List.getElem_mem _)⟩⟩
  · rw [n32 (by omega)] at hs
    obtain ⟨j, hj, rfl⟩ := List.getElem_of_mem hc
    exact Or.inr ⟨rfl, hs, fun j hj => ⟨by rw [hv _ (by omega), wide_lo _ _ _ hj], by rw [hv _ (by omega), wide_hi _ _ _ hj]⟩, j, hj, by
      have e : cs.getD j 0 = cs[j] := by simp [List.getD_eq_getElem?_getD, hj]
      show 255 < cs.getD j 0
      rw [e]; exact hw⟩
/-- an object of exactly java/lang/String, its two fields found: as the laws ask it -/
theorem strObj {Z U : State} {a0 : Array Value} {kI : Nat} (wi : (Jvm.Cond.instantiable ST kI).before a0 Z = true) (al : Z.vm.Alike U.vm) {x : Addr} {v0 c0 : Value} (E : RoadKit.Exa Z U.heap x ST) (V : RoadKit.Fld Z U.heap x ST "value" "[B" v0) (C : RoadKit.Fld Z U.heap x ST "coder" "B" c0) :
    ∃ (D : Cell) (fV fC : Field), Blank ST x D U ∧ Found ST "value" "[B" fV U ∧ Found ST "coder" "B" fC U ∧ D.slots[fV.slot]? = some v0 ∧ D.slots[fC.slot]? = some c0 ∧ RoadKit.slotOf Z ST "value" "[B" = fV.slot ∧ RoadKit.slotOf Z ST "coder" "B" = fC.slot := by
  obtain ⟨D, cfV, kV, iV, fV, hD, gV, stV, knV, obV, asV, slV⟩ := V
  obtain ⟨D', cfC, kC, iC, fC, hD', gC, stC, -, -, asC, slC⟩ := C
  cases hD.symm.trans hD'
  obtain ⟨D2, kD, e1, e2, e3, e4, e5⟩ := E
  cases hD.symm.trans e1
  obtain ⟨c2, k2, i1, i2, i3, -⟩ := Cond.instantiable_spec wi
  cases e2.symm.trans i1
  cases e3.symm.trans i2
  obtain ⟨kU, u1, u2⟩ := al.2.2 _ _ e3
  exact ⟨D, fV, fC, ⟨hD, ⟨knV, fun q hq => by rw [hq] at obV; cases obV⟩, by rw [al.findClass]; exact e2, kU, u1, by rw [u2]; exact i3, by rw [u2]; exact e5 i3⟩, ⟨SBG.found_only al ⟨cfV, kV, iV, gV⟩, stV⟩, ⟨SBG.found_only al ⟨cfC, kC, iC, gC⟩, stC⟩, slV, slC, by simp [RoadKit.slotOf, gV], by simp [RoadKit.slotOf, gC]⟩
theorem sta_is {Z U : State} (al : Z.vm.Alike U.vm) {C n d : String} {v : Value} (S : RoadKit.Sta Z U.heap C n d v) : StaticIs U C n d v := by
  obtain ⟨cfS, iS, kS, fS, st, cS, t1, t2, t3, t4, t5, t6, t7⟩ := S
  exact StaticIs.there (s := { Z with heap := U.heap }) ⟨cfS, iS, kS, fS, st, cS, t1, t2, t3, t4, t5, (fun q => by rw [q] at t6; cases t6), t7⟩ al rfl
/-- **length() OF SUCH A STRING** -/
theorem lenW {p : Program} {l : Launch} {e : Env} {R : Room} {s : State} {args : Array Value} {below : List Frame} {len W : Nat} {Z : State} {a0 : Array Value} {h : Heap} (hZ : Z.Warmed39 s.vm) (hw : ∀ d ∈ wordsLen, d.before a0 Z = true) {kI : Nat} (wi : (Jvm.Cond.instantiable ST kI).before a0 Z = true)
    {x t : Addr} {kb : ClassId} {cs : List Int32} {cd N2 z : Int32} {vs : List Value} (E : RoadKit.Exa Z h x ST) (V : RoadKit.Fld Z h x ST "value" "[B" (.ref t)) (C : RoadKit.Fld Z h x ST "coder" "B" (.int cd)) (K : RoadKit.Arv Z h t kb .byte N2 vs (.int 0)) (hc : CodA cs cd N2 vs) (hb : ∀ c ∈ cs, ¬ c < 0 ∧ ¬ (65535 : Int32) < c)
    (S : RoadKit.Sta Z h ST "COMPACT_STRINGS" "Z" (.int z)) (hz : ¬ z = 0) (l2 : cs.length ≤ 4000) (hfr : 2 ≤ R.frames) (hlo : W + 25 ≤ R.locals) :
    Back l R p e below s args (⟨"java/lang/String", "length", "()I"⟩ : MethodName) len W (fun P a => a = #[.ref x] ∧ P.U.heap = h ∧ P.cells + 0 ≤ R.cells ∧ P.slots + 0 ≤ R.slots)
      (fun P _ v B => ∃ L, (v = some (.int (Int32.ofNat cs.length)) ∧ L = [] ∧ B.U.heap = h) ∧ B.locs = P.locs ++ L ∧ B.cells = P.cells + 0 ∧ B.slots = P.slots + 0) := by
  obtain ⟨A, K1, K2, K3, K4, K5, K6⟩ := K
  have hcod := hc.cod (by omega) K3 K5
  intro m meth c P g ig mk a X hg hsize hdg hW hn hp'
  obtain ⟨rfl, rfl, r1, r2⟩ := hp'
  have al : Z.vm.Alike P.U.vm := hZ.alike.trans X.warmed.alike
  obtain ⟨D, fV, fC, hB, F1, F2, g1, g2, -, -⟩ := strObj wi al E V C
  have hx : Txt x t A cd cs.length (fun j => cs.getD j 0) P.U := ⟨⟨_, hB.2.2.1, D, hB.1, rfl, by cases q : D.vm <;> first | rfl | exact absurd q (hB.2.1.2 _)⟩, Has.of hB F1 g1, Has.of hB F2 g2, ⟨K1.1, State.isArrayOf_alike al K1.2.1, K1.2.2, by rcases hcod with ⟨-, q, -⟩ | ⟨-, q, -⟩ <;> omega⟩, hcod, fun j hj => by
    have e : cs.getD j 0 = cs[j] := by simp [List.getD_eq_getElem?_getD, hj]
    show ¬ cs.getD j 0 < 0 ∧ ¬ 65535 < cs.getD j 0
    rw [e]; exact hb _ (List.getElem_mem _)⟩
  obtain ⟨v, B, X', ⟨⟨hv, hh⟩, hl, hk, hs⟩, st⟩ := Len.pays x t A cd cs.length (fun j => cs.getD j 0) z (tabLen_of (movedLen hZ hw)) hfr hlo m meth c P g ig mk _ X hg hsize hdg hW hn ⟨r1, r2, rfl, hx, sta_is al S, hz⟩
  exact ⟨v, B, X', ⟨[], ⟨hv, rfl, hh⟩, hl, hk, hs⟩, st⟩
end StrChars.Road
end Jvm.Pilot.@@N@@
namespace Jvm.Pilot.@@N@@
open Jvm Jvm.ClassFile Sem Op Lib Jvm.Free Jvm.Stand Jvm.LawKit Jvm.RoadKit Bundle Jvm.Own Jvm.Pilot.@@N@@.Jvm.D
/-- at x a String whose chars are cs, its bytes at t -/
def Str (Z : State) (h : Heap) (x t : Addr) (cs : List Int32) : Prop := Exa Z h x "java/lang/String" ∧ Fld Z h x "java/lang/String" "value" "[B" (.ref t) ∧
  ∃ (cd N2 : Int32) (vs : List Value) (kb : ClassId), Fld Z h x "java/lang/String" "coder" "B" (.int cd) ∧ Arv Z h t kb .byte N2 vs (.int 0) ∧ StrChars.Road.CodA cs cd N2 vs ∧ (∀ c ∈ cs, ¬ c < 0 ∧ ¬ (65535 : Int32) < c) ∧ cs.length ≤ 4000
section StrFacts
variable {Z : State} {h h' : Heap} {x t a : Addr} {cs : List Int32} {sl : Nat} {v : Value} {ws : List Addr}
theorem Str.exa (S : Str Z h x t cs) : Exa Z h x "java/lang/String" := S.1
theorem Str.lt (S : Str Z h x t cs) : @LT.lt Nat _ x h.size := S.1.lt
theorem Str.lt' (S : Str Z h x t cs) : @LT.lt Nat _ t h.size := by obtain ⟨-, -, _, _, _, _, -, A, -⟩ := S; exact A.lt
theorem Str.ext (S : Str Z h x t cs) (E : Ext h h') : Str Z h' x t cs := by
  obtain ⟨s1, s2, cd, N2, vs, kb, s3, s4, r⟩ := S; exact ⟨s1.ext E, s2.ext E, cd, N2, vs, kb, s3.ext E, s4.ext E, r⟩
theorem Str.keep (S : Str Z h x t cs) (K : Keep h h' ws) (q : x ∉ ws ∧ t ∉ ws) : Str Z h' x t cs := by
  obtain ⟨s1, s2, cd, N2, vs, kb, s3, s4, r⟩ := S; exact ⟨s1.keep K, s2.keep K q.1, cd, N2, vs, kb, s3.keep K q.1, s4.keep K q.2, r⟩
theorem Str.wr (S : Str Z h x t cs) (W : Wr h h' a sl v) (q : x ≠ a ∧ t ≠ a) : Str Z h' x t cs := S.keep (Keep.of_wr W) ⟨ninS q.1 nin0, ninS q.2 nin0⟩
theorem Str.mk0 {kb : ClassId} {N2 : Int32} {vs : List Value} (E : Exa Z h x "java/lang/String") (V : Fld Z h x "java/lang/String" "value" "[B" (.ref t)) (C : Fld Z h x "java/lang/String" "coder" "B" (.int 0)) (A : Arv Z h t kb .byte N2 vs (.int 0)) (hN : N2 = Int32.ofNat cs.length) (hv : vs = cs.map fun c => .int (StrChars.lo8 c)) (hb : ∀ c ∈ cs, ¬ c < 0 ∧ ¬ (255 : Int32) < c) (hl : cs.length ≤ 4000) : Str Z h x t cs :=
  ⟨E, V, 0, N2, vs, kb, C, A, Or.inl ⟨rfl, hN, hv, fun c hc => (hb c hc).2⟩, fun c hc => ⟨(hb c hc).1, fun w => (hb c hc).2 (Int32.lt_trans (by decide) w)⟩, hl⟩
end StrFacts
section StartF
variable {args : Array Value} {s : State} {a b t : Term} {e x : Addr} {k z : Int32}
theorem eq_ref (h : (Cond.eq a b).value args s none s [] = some true) (hb : b.eval args s none [] s = some (.ref e)) : a.eval args s none [] s = some (.ref e) := by
  obtain ⟨u, v, hu, hv, h1, h2⟩ := cmp_v (Or.inl h)
  cases hb.symm.trans hv
  obtain ⟨-, r⟩ : Kin (.ref e) u := h2
  rw [eq_R hu hb r rfl] at h
  rw [hu]
  exact congrArg some (of_decide_eq_true (Option.some.inj h))
theorem eq_int (h : (Cond.eq a (.int k)).value args s none s [] = some true) : a.eval args s none [] s = some (.int k) := by
  obtain ⟨u, v, hu, hv, h1, h2⟩ := cmp_v (Or.inl h)
  cases (Term.int_eval k (args := args) (first := s) (o := none) (idx := []) (s := s)).symm.trans hv
  obtain ⟨y, rfl⟩ : Kin (.int k) u := h2
  rw [Cond.eq_ints hu (Term.int_eval k)] at h
  rw [hu, of_decide_eq_true (Option.some.inj h)]
theorem len_start {cl : Cell} {ty : FieldType} (ev : t.eval args s none [] s = some (.ref x)) (A : Arr s s.heap x cl ty) (h : (Cond.eq (.length t) (.int z)).value args s none s [] = some true) : cl.slots.size < 2 ^ 31 ∧ cl.slots.size.toInt32 = z := by
  have h' := eq_int h
  have hA := A.fin (Vm.Alike.refl _)
  simp only [Term.eval, ev, Option.bind_eq_bind, Option.bind_some] at h'
  rw [hA] at h'
  simp at h'
  by_cases q : cl.slots.size < 2 ^ 31
  · refine ⟨q, ?_⟩
    simpa [q] using h'
  · simp [q] at h'
theorem elem_start {cl : Cell} {ty : FieldType} {j : Int32} {v : Value} (ev : t.eval args s none [] s = some (.ref x)) (A : Arr s s.heap x cl ty) (h : (Term.elem t (.int j)).eval args s none [] s = some v) : cl.slots[j.toNatClampNeg]? = some v :=
  (elem_in h ev (Term.int_eval j) A.1).2
theorem str_start (hf : Fit s) {c0 c1 c2 : Int32} (ev : t.eval args s none [] s = some (.ref x)) (he : (Cond.exactly t "java/lang/String").value args s none s [] = some true) (hc : (Cond.eq (.field t "java/lang/String" "coder" "B") (.int 0)).value args s none s [] = some true)
    (ha : (Cond.arrayOf (.field t "java/lang/String" "value" "[B") .byte).value args s none s [] = some true) (hl : (Cond.eq (.length (.field t "java/lang/String" "value" "[B")) (.int 3)).value args s none s [] = some true)
    (h0 : (Cond.eq (.elem (.field t "java/lang/String" "value" "[B") (.int 0)) (.int c0)).value args s none s [] = some true) (h1 : (Cond.eq (.elem (.field t "java/lang/String" "value" "[B") (.int 1)) (.int c1)).value args s none s [] = some true) (h2 : (Cond.eq (.elem (.field t "java/lang/String" "value" "[B") (.int 2)) (.int c2)).value args s none s [] = some true)
    (hb : ∀ c ∈ [c0, c1, c2], ¬ c < 0 ∧ ¬ (127 : Int32) < c) (hv : [c0, c1, c2].map Value.int = [c0, c1, c2].map fun c => Value.int (StrChars.lo8 c)) : ∃ tt : Addr, Str s s.heap x tt [c0, c1, c2] := by
  obtain ⟨y, ey⟩ := arr_v ha
  obtain ⟨cl, A⟩ := Arr.start ey ha
  obtain ⟨q, ez⟩ := len_start ey A hl
  have H : HasL cl 0 [.int c0, .int c1, .int c2] := ⟨elem_start ey A (eq_int h0), elem_start ey A (eq_int h1), elem_start ey A (eq_int h2), trivial⟩
  have V : Arv s s.heap y cl.cls .byte 3 [.int c0, .int c1, .int c2] (.int 0) := Arv.start hf A q ez (by decide) rfl H
  have FV : Fld s s.heap x "java/lang/String" "value" "[B" (.ref y) := Fld.start ((fld_at ev).symm.trans ey)
  have FC : Fld s s.heap x "java/lang/String" "coder" "B" (.int 0) := Fld.start ((fld_at ev).symm.trans (eq_int hc))
  exact ⟨y, Str.mk0 (Exa.start ev he) FV FC V rfl hv (fun c hc => ⟨(hb c hc).1, fun w => (hb c hc).2 (Int32.lt_trans (by decide) w)⟩) (by simp)⟩
end StartF
theorem own_wstr : ∀ d ∈ Bundle.stringAtoms, d ∈ tables_1 := by decide +kernel
/-- what the sheet says of the statics -/
def Sts (Z : State) (zc : Int32) (rv : Value) : Prop := Sta Z Z.heap "java/lang/String" "COMPACT_STRINGS" "Z" (.int zc) ∧ (¬ (zc = (0 : Int32))) ∧ Sta Z Z.heap "java/lang/StringUTF16" "$assertionsDisabled" "Z" (.int (1 : Int32)) ∧ Sta Z Z.heap "java/lang/StringUTF16" "HI_BYTE_SHIFT" "I" (.int (0 : Int32)) ∧
  Sta Z Z.heap "java/lang/StringUTF16" "LO_BYTE_SHIFT" "I" (.int (8 : Int32)) ∧ Sta Z Z.heap "jdk/internal/util/Preconditions" "SIOOBE_FORMATTER" "Ljava/util/function/BiFunction;" rv ∧ rv.isRef = true
def rng (c : Int32) : Prop := ¬ c < 0 ∧ ¬ (65535 : Int32) < c
theorem nar_rng (z : Int32) : rng (nar .char z) := by
  have h := fits_nar_char z
  simp only [fits, Bool.and_eq_true, decide_eq_true_eq] at h
  exact ⟨Int32.not_lt.mpr h.1, Int32.not_lt.mpr h.2⟩
theorem nar_ch {c : Int32} (h : rng c) : nar .char c = c := Value.int.inj (StrChars.narrow_ch h.1 h.2)
theorem nb8 (x : Int32) : nar .byte (x.toInt8.toInt32) = StrChars.lo8 x := by
  show x.toInt8.toInt32.toInt8.toInt32 = x.toInt8.toInt32
  rw [Int8.toInt8_toInt32]
theorem nbH (c : Int32) : nar .byte ((c >>> ((8 : Int32) &&& 31)).toInt8.toInt32) = StrChars.hi8 c := nb8 _
theorem nbL (c : Int32) : nar .byte ((c >>> ((0 : Int32) &&& 31)).toInt8.toInt32) = StrChars.lo8 c := by rw [StrChars.shr0]; exact nb8 c
theorem got_ch {c : Int32} (h : rng c) : nar .char ((((StrChars.lo8 c) &&& (255 : Int32)) <<< ((0 : Int32) &&& 31)) ||| (((StrChars.hi8 c) &&& (255 : Int32)) <<< ((8 : Int32) &&& 31))).toUInt32.toUInt16.toUInt32.toInt32 = c := by
  have e : StrChars.pairCh (StrChars.lo8 c) (StrChars.hi8 c) = c := StrChars.pair_says h.1 h.2
  show nar .char (StrChars.pairCh (StrChars.lo8 c) (StrChars.hi8 c)) = c
  rw [e]; exact nar_ch h
theorem lo_inj {c k : Int32} (h0 : ¬ c < 0) (h1 : ¬ (255 : Int32) < c) (k0 : ¬ k < 0) (k1 : ¬ (255 : Int32) < k) (e : StrChars.lo8 c = StrChars.lo8 k) : c = k := by
  rw [← StrChars.lo8_mask h0 h1, e, StrChars.lo8_mask k0 k1]
theorem lo_46 : StrChars.lo8 46 = 46 := by decide
theorem lo_64 : StrChars.lo8 64 = 64 := by decide
theorem lo_eq46 {c : Int32} (h0 : ¬ c < 0) (h1 : ¬ (255 : Int32) < c) (e : StrChars.lo8 c = 46) : c = 46 := lo_inj h0 h1 (by decide) (by decide) (e.trans lo_46.symm)
theorem lo_eq64 {c : Int32} (h0 : ¬ c < 0) (h1 : ¬ (255 : Int32) < c) (e : StrChars.lo8 c = 64) : c = 64 := lo_inj h0 h1 (by decide) (by decide) (e.trans lo_64.symm)
def loc : List Int32 → Int32
  | [] => 1
  | c :: cs => if c = 46 ∨ c = 64 then 0 else loc cs
def prin : List Int32 → Int32
  | [] => 0
  | c :: cs => if c = 64 then 1 else prin cs
theorem and3 (x : Int32) : (x &&& (3 : Int32)) = 0 ∨ (x &&& (3 : Int32)) = 1 ∨ (x &&& (3 : Int32)) = 2 ∨ (x &&& (3 : Int32)) = 3 := by
  have h : (x &&& 3).toBitVec.toNat < 4 := by
    simp only [Int32.toBitVec_and, BitVec.toNat_and]
    exact Nat.lt_succ_of_le Nat.and_le_right
  have t : ∀ k : Fin 4, Int32.ofNat k.val = 0 ∨ Int32.ofNat k.val = 1 ∨ Int32.ofNat k.val = 2 ∨ Int32.ofNat k.val = 3 := by decide
  have e : x &&& (3 : Int32) = Int32.ofNat (x &&& 3).toBitVec.toNat := by
    apply Int32.toBitVec_inj.mp
    show _ = BitVec.ofNat 32 _
    rw [BitVec.ofNat_toNat]; simp
  rw [e]; exact t ⟨_, h⟩
theorem Str.wide {Z : State} {h : Heap} {x t : Addr} {cs : List Int32} {kb : ClassId} {N2 : Int32} {vs : List Value} (E : Exa Z h x "java/lang/String") (V : Fld Z h x "java/lang/String" "value" "[B" (.ref t)) (C : Fld Z h x "java/lang/String" "coder" "B" (.int 1)) (A : Arv Z h t kb .byte N2 vs (.int 0)) (hN : N2 = Int32.ofNat (2 * cs.length)) (hv : vs = StrChars.Road.wideBytes cs) (hw : ∃ c ∈ cs, (255 : Int32) < c) (hb : ∀ c ∈ cs, rng c) (hl : cs.length ≤ 4000) : Str Z h x t cs :=
  ⟨E, V, 1, N2, vs, kb, C, A, Or.inr ⟨rfl, hN, hv, hw⟩, hb, hl⟩
theorem pn_com_example_multi_domain_access_multidomainaccess_NamesIsLocalNamePinLaw : plainName "com/example/multi_domain_access/multidomainaccess/NamesIsLocalNamePinLaw" = true := by first | (simp [plainName, overriddenIn]; done) | decide +kernel
theorem d1_0 : decode method_2_code 0 = .ok (.iload_n 0, 1) := by decide +kernel
theorem d1_1 : decode method_2_code 1 = .ok (.iconst 3, 1) := by decide +kernel
theorem d1_2 : decode method_2_code 2 = .ok (.iand, 1) := by decide +kernel
theorem d1_3 : decode method_2_code 3 = .ok (.istore_n 1, 1) := by decide +kernel
theorem d1_4 : decode method_2_code 4 = .ok (.iload_n 1, 1) := by decide +kernel
theorem d1_5 : decode method_2_code 5 = .ok (.ifCond .ne 6, 3) := by decide +kernel
theorem d1_8 : decode method_2_code 8 = .ok (.bipush 46, 2) := by decide +kernel
theorem d1_10 : decode method_2_code 10 = .ok (.ireturn, 1) := by decide +kernel
theorem d1_11 : decode method_2_code 11 = .ok (.iload_n 1, 1) := by decide +kernel
theorem d1_12 : decode method_2_code 12 = .ok (.iconst 1, 1) := by decide +kernel
theorem d1_13 : decode method_2_code 13 = .ok (.if_icmp .ne 6, 3) := by decide +kernel
theorem d1_16 : decode method_2_code 16 = .ok (.bipush 64, 2) := by decide +kernel
theorem d1_18 : decode method_2_code 18 = .ok (.ireturn, 1) := by decide +kernel
theorem d1_19 : decode method_2_code 19 = .ok (.iload_n 0, 1) := by decide +kernel
theorem d1_20 : decode method_2_code 20 = .ok (.iconst 2, 1) := by decide +kernel
theorem d1_21 : decode method_2_code 21 = .ok (.iushr, 1) := by decide +kernel
theorem d1_22 : decode method_2_code 22 = .ok (.ldc 7, 2) := by decide +kernel
theorem d1_24 : decode method_2_code 24 = .ok (.iand, 1) := by decide +kernel
theorem d1_25 : decode method_2_code 25 = .ok (.i2c, 1) := by decide +kernel
theorem d1_26 : decode method_2_code 26 = .ok (.ireturn, 1) := by decide +kernel
set_option maxRecDepth 65536 in
set_option maxHeartbeats 40000000 in
theorem n_draw (l : Launch) (Z : State) (a0 : Array Value) (hw : ∀ d ∈ tables_1, d.before a0 Z = true) (hEL : EW Z a0 []) (xx : Int32)  (h0 : Heap) (n0 : Nat)  :
    Met false Z [] l (⟨"com/example/multi_domain_access/multidomainaccess/NamesIsLocalNamePinLaw", "draw", "(I)C"⟩ : MethodName) method_2_code 2 (some .char) ({ frames := 0, cells := 0, slots := 0, locals := 0 } : Room) #[(.int xx)] h0 [] n0 (fun v h => ∃ c : Int32, v = some (.int c) ∧ rng c ∧ h0 = h) := by
  refine Met.of (a0 := a0) (Ls := #[.val (.int xx), .unset]) (fun z => rfl) (plainFor_of_name pn_com_example_multi_domain_access_multidomainaccess_NamesIsLocalNamePinLaw) hEL (fun m => by first | (simp [entryFrame, mkF, argsToLocals, Value.category]; done) | rfl) ?_
  intro p e s m below meth c B hSf
  refine gs (mkF m 1 _ [(.int xx)]) (fun T A t k => XS.iloadN A B.x rfl (B.d d1_0) rfl k) ?_
  refine gs (mkF m 2 _ [(.int (3 : Int32)), (.int xx)]) (fun T A t k => XS.iconst A B.x rfl (B.d d1_1) k) ?_
  refine gs (mkF m 3 _ [(.int (xx &&& (3 : Int32)))]) (fun T A t k => XS.iand A B.x rfl (B.d d1_2) rfl k) ?_
  refine gs (mkF m 4 #[.val (.int xx), .val (.int (xx &&& (3 : Int32)))] []) (fun T A t k => XS.istoreN A B.x rfl (B.d d1_3) rfl (l' := #[.val (.int xx), .val (.int (xx &&& (3 : Int32)))]) rfl k) ?_
  refine gs (mkF m 5 _ [(.int (xx &&& (3 : Int32)))]) (fun T A t k => XS.iloadN A B.x rfl (B.d d1_4) rfl k) ?_
  by_cases hc5_1 : (xx &&& (3 : Int32)) = (0 : Int32)
  · refine gs (mkF m 8 _ []) (fun T A t k => XS.ifNo A B.x rfl (B.d d1_5) rfl ((if0 _ _).trans (teq (hc5_1 : (xx &&& (3 : Int32)) = (0 : Int32))).2) k) ?_
    refine gs (mkF m 10 _ [(.int (46 : Int32))]) (fun T A t k => XS.bipush A B.x rfl (B.d d1_8) k) ?_
    exact g_retN (t := .char) B (by simp) d1_10 (by decide) (by decide) ⟨_, rfl, nar_rng _, rfl⟩
  · refine gs (mkF m 11 _ []) (fun T A t k => XS.ifYes A B.x rfl (pc0 := 5) (pc' := 11) rfl (B.d d1_5) rfl ((if0 _ _).trans (feq (hc5_1 : ¬ ((xx &&& (3 : Int32)) = (0 : Int32)))).2) (by decide) (by decide) k) ?_
    refine gs (mkF m 12 _ [(.int (xx &&& (3 : Int32)))]) (fun T A t k => XS.iloadN A B.x rfl (B.d d1_11) rfl k) ?_
    refine gs (mkF m 13 _ [(.int (1 : Int32)), (.int (xx &&& (3 : Int32)))]) (fun T A t k => XS.iconst A B.x rfl (B.d d1_12) k) ?_
    by_cases hc13_2 : (xx &&& (3 : Int32)) = (1 : Int32)
    · refine gs (mkF m 16 _ []) (fun T A t k => XS.icmpNo A B.x rfl (B.d d1_13) rfl (teq (hc13_2 : (xx &&& (3 : Int32)) = (1 : Int32))).2 k) ?_
      refine gs (mkF m 18 _ [(.int (64 : Int32))]) (fun T A t k => XS.bipush A B.x rfl (B.d d1_16) k) ?_
      exact g_retN (t := .char) B (by simp) d1_18 (by decide) (by decide) ⟨_, rfl, nar_rng _, rfl⟩
    · refine gs (mkF m 19 _ []) (fun T A t k => XS.icmpYes A B.x rfl (pc0 := 13) (pc' := 19) rfl (B.d d1_13) rfl (feq (hc13_2 : ¬ ((xx &&& (3 : Int32)) = (1 : Int32)))).2 (by decide) (by decide) k) ?_
      refine gs (mkF m 20 _ [(.int xx)]) (fun T A t k => XS.iloadN A B.x rfl (B.d d1_19) rfl k) ?_
      refine gs (mkF m 21 _ [(.int (2 : Int32)), (.int xx)]) (fun T A t k => XS.iconst A B.x rfl (B.d d1_20) k) ?_
      refine gs (mkF m 22 _ [(.int ((xx.toUInt32 >>> ((2 : Int32) &&& 31).toUInt32).toInt32))]) (fun T A t k => XS.iushr A B.x rfl (B.d d1_21) rfl k) ?_
      refine g_ldcI B (hw _ (List.mem_of_getElem? (i := 4) rfl)) d1_22 (q := 24) rfl ?_
      refine gs (mkF m 25 _ [(.int (((xx.toUInt32 >>> ((2 : Int32) &&& 31).toUInt32).toInt32) &&& (65535 : Int32)))]) (fun T A t k => XS.iand A B.x rfl (B.d d1_24) rfl k) ?_
      refine gs (mkF m 26 _ [(.int ((((xx.toUInt32 >>> ((2 : Int32) &&& 31).toUInt32).toInt32) &&& (65535 : Int32)).toUInt32.toUInt16.toUInt32.toInt32))]) (fun T A t k => XS.i2c A B.x rfl (B.d d1_25) rfl k) ?_
      exact g_retN (t := .char) B (by simp) d1_26 (by decide) (by decide) ⟨_, rfl, nar_rng _, rfl⟩
theorem d19_0 : decode method_3_code 0 = .ok (.iload_n 0, 1) := by decide +kernel
theorem d19_1 : decode method_3_code 1 = .ok (.bipush 46, 2) := by decide +kernel
theorem d19_3 : decode method_3_code 3 = .ok (.if_icmp .eq 13, 3) := by decide +kernel
theorem d19_16 : decode method_3_code 16 = .ok (.iconst 0, 1) := by decide +kernel
theorem d19_17 : decode method_3_code 17 = .ok (.ireturn, 1) := by decide +kernel
theorem d19_6 : decode method_3_code 6 = .ok (.iload_n 0, 1) := by decide +kernel
theorem d19_7 : decode method_3_code 7 = .ok (.bipush 64, 2) := by decide +kernel
theorem d19_9 : decode method_3_code 9 = .ok (.if_icmp .eq 7, 3) := by decide +kernel
theorem d19_12 : decode method_3_code 12 = .ok (.iconst 1, 1) := by decide +kernel
theorem d19_13 : decode method_3_code 13 = .ok (.goto 4, 3) := by decide +kernel
set_option maxRecDepth 65536 in
set_option maxHeartbeats 40000000 in
theorem n_plain (l : Launch) (Z : State) (a0 : Array Value) (hw : ∀ d ∈ tables_1, d.before a0 Z = true) (hEL : EW Z a0 []) (cc : Int32)  (h0 : Heap) (n0 : Nat)  :
    Met false Z [] l (⟨"com/example/multi_domain_access/multidomainaccess/NamesIsLocalNamePinLaw", "plain", "(C)Z"⟩ : MethodName) method_3_code 1 (some .boolean) ({ frames := 0, cells := 0, slots := 0, locals := 0 } : Room) #[(.int cc)] h0 [] n0 (fun v h => v = some (.int (if cc = (46 : Int32) ∨ cc = (64 : Int32) then (0 : Int32) else 1)) ∧ h0 = h) := by
  refine Met.of (a0 := a0) (Ls := #[.val (.int cc)]) (fun z => rfl) (plainFor_of_name pn_com_example_multi_domain_access_multidomainaccess_NamesIsLocalNamePinLaw) hEL (fun m => by first | (simp [entryFrame, mkF, argsToLocals, Value.category]; done) | rfl) ?_
  intro p e s m below meth c B hSf
  refine gs (mkF m 1 _ [(.int cc)]) (fun T A t k => XS.iloadN A B.x rfl (B.d d19_0) rfl k) ?_
  refine gs (mkF m 3 _ [(.int (46 : Int32)), (.int cc)]) (fun T A t k => XS.bipush A B.x rfl (B.d d19_1) k) ?_
  by_cases hp1 : cc = (46 : Int32)
  · refine gs (mkF m 16 _ []) (fun T A t k => XS.icmpYes A B.x rfl (pc0 := 3) (pc' := 16) rfl (B.d d19_3) rfl (teq (hp1 : cc = (46 : Int32))).1 (by decide) (by decide) k) ?_
    refine gs (mkF m 17 _ [(.int (0 : Int32))]) (fun T A t k => XS.iconst A B.x rfl (B.d d19_16) k) ?_
    exact g_retN (t := .boolean) B (by simp) d19_17 (by decide) (by decide) ⟨by show some (Value.int (0 : Int32)) = _; simp [hp1], rfl⟩
  · refine gs (mkF m 6 _ []) (fun T A t k => XS.icmpNo A B.x rfl (B.d d19_3) rfl (feq (hp1 : ¬ (cc = (46 : Int32)))).1 k) ?_
    refine gs (mkF m 7 _ [(.int cc)]) (fun T A t k => XS.iloadN A B.x rfl (B.d d19_6) rfl k) ?_
    refine gs (mkF m 9 _ [(.int (64 : Int32)), (.int cc)]) (fun T A t k => XS.bipush A B.x rfl (B.d d19_7) k) ?_
    by_cases hp2 : cc = (64 : Int32)
    · refine gs (mkF m 16 _ []) (fun T A t k => XS.icmpYes A B.x rfl (pc0 := 9) (pc' := 16) rfl (B.d d19_9) rfl (teq (hp2 : cc = (64 : Int32))).1 (by decide) (by decide) k) ?_
      refine gs (mkF m 17 _ [(.int (0 : Int32))]) (fun T A t k => XS.iconst A B.x rfl (B.d d19_16) k) ?_
      exact g_retN (t := .boolean) B (by simp) d19_17 (by decide) (by decide) ⟨by show some (Value.int (0 : Int32)) = _; simp [hp2], rfl⟩
    · refine gs (mkF m 12 _ []) (fun T A t k => XS.icmpNo A B.x rfl (B.d d19_9) rfl (feq (hp2 : ¬ (cc = (64 : Int32)))).1 k) ?_
      refine gs (mkF m 13 _ [(.int (1 : Int32))]) (fun T A t k => XS.iconst A B.x rfl (B.d d19_12) k) ?_
      refine gs (mkF m 17 _ [(.int (1 : Int32))]) (fun T A t k => XS.goto A B.x rfl (pc0 := 13) (pc' := 17) rfl (B.d d19_13) (by decide) (by decide) k) ?_
      exact g_retN (t := .boolean) B (by simp) d19_17 (by decide) (by decide) ⟨by show some (Value.int (1 : Int32)) = _; simp [hp1, hp2], rfl⟩
theorem pn_java_lang_String : plainName "java/lang/String" = true := by first | (simp [plainName, overriddenIn]; done) | decide +kernel
theorem d3_0 : decode jdk_42_method_149_code 0 = .ok (.aload_n 0, 1) := by decide +kernel
theorem d3_1 : decode jdk_42_method_149_code 1 = .ok (.invokespecial 1, 3) := by decide +kernel
theorem d3_4 : decode jdk_42_method_149_code 4 = .ok (.iload_n 3, 1) := by decide +kernel
theorem d3_5 : decode jdk_42_method_149_code 5 = .ok (.ifCond .ne 22, 3) := by decide +kernel
theorem d3_8 : decode jdk_42_method_149_code 8 = .ok (.aload_n 0, 1) := by decide +kernel
theorem d3_9 : decode jdk_42_method_149_code 9 = .ok (.ldc 7, 2) := by decide +kernel
theorem d3_11 : decode jdk_42_method_149_code 11 = .ok (.getfield 9, 3) := by decide +kernel
theorem d3_14 : decode jdk_42_method_149_code 14 = .ok (.putfield 9, 3) := by decide +kernel
theorem d3_17 : decode jdk_42_method_149_code 17 = .ok (.aload_n 0, 1) := by decide +kernel
theorem d3_18 : decode jdk_42_method_149_code 18 = .ok (.ldc 7, 2) := by decide +kernel
theorem d3_20 : decode jdk_42_method_149_code 20 = .ok (.getfield 15, 3) := by decide +kernel
theorem d3_23 : decode jdk_42_method_149_code 23 = .ok (.putfield 15, 3) := by decide +kernel
theorem d3_26 : decode jdk_42_method_149_code 26 = .ok (.return_, 1) := by decide +kernel
set_option maxRecDepth 65536 in
set_option maxHeartbeats 40000000 in
theorem w_init4 (l : Launch) (Z : State) (a0 : Array Value) (hw : ∀ d ∈ tables_1, d.before a0 Z = true) (hEL : EW Z a0 consts_1) (a1 : Addr) (a2 : Addr)  (h0 : Heap) (n0 : Nat) (PE : Exa Z h0 a1 "java/lang/String") (PV : Fld Z h0 a1 "java/lang/String" "value" "[B" .null) (PC : Fld Z h0 a1 "java/lang/String" "coder" "B" (.int (0 : Int32))) (hd : @LE.le Nat _ n0 a1) :
    Met true Z consts_1 l (⟨"java/lang/String", "<init>", "([CIILjava/lang/Void;)V"⟩ : MethodName) jdk_42_method_149_code 6 none ({ frames := 1, cells := 4, slots := 8, locals := 12 } : Room) #[(.ref a1), (.ref a2), (.int (0 : Int32)), (.int (0 : Int32)), .null] h0 [a1] n0 (fun v h => v = none ∧ Keep h0 h [a1] ∧ ∃ t : Addr, Str Z h a1 t ([] : List Int32)) := by
  refine Met.of (a0 := a0) (Ls := #[.val (.ref a1), .val (.ref a2), .val (.int (0 : Int32)), .val (.int (0 : Int32)), .val .null, .unset]) (fun z => (nomatch z)) (plainFor_of_name pn_java_lang_String) hEL (fun m => by first | (simp [entryFrame, mkF, argsToLocals, Value.category]; done) | rfl) ?_
  intro p e s m below meth c B hSf
  refine g_wt (fun Wt0 => ?_)
  have hlt1 : @LT.lt Nat _ a1 h0.size := PE.lt
  refine gs (mkF m 1 _ [(.ref a1)]) (fun T A t k => XS.aloadN A B.x rfl (B.d d3_0) rfl rfl k) ?_
  refine g_initO B (hw _ (List.mem_of_getElem? (i := 16) rfl)) (hw _ (List.mem_of_getElem? (i := 17) rfl)) (hw _ (List.mem_of_getElem? (i := 18) rfl)) rfl d3_1 (by decide) (W := 0) (Nat.le_of_eq rfl) (by decide) (q := 4) rfl ?_
  refine gs (mkF m 5 _ [(.int (0 : Int32))]) (fun T A t k => XS.iloadN A B.x rfl (B.d d3_4) rfl k) ?_
  refine gs (mkF m 8 _ []) (fun T A t k => XS.ifNo A B.x rfl (B.d d3_5) rfl ((if0 _ _).trans (teq (by decide : (0 : Int32) = (0 : Int32))).2) k) ?_
  refine gs (mkF m 9 _ [(.ref a1)]) (fun T A t k => XS.aloadN A B.x rfl (B.d d3_8) rfl rfl k) ?_
  refine g_ldcS (z := (0 : Int32)) (vs := []) (n := 0) B (hw _ (List.mem_of_getElem? (i := 19) rfl)) (fun d hd => hw d (own_wstr d hd)) (by decide) (by decide) (by decide) rfl d3_9 (by decide) (by decide) (by decide) (by decide) (q := 11) rfl ?_
  intro h21 vm21 b21 t21 k21 hZ21 E21 C21 A21 F21c F21v V21 N21
  refine g_wt (fun Wt22 => ?_)
  have X21 : Str Z h21 b21 t21 ([] : List Int32) := Str.mk0 A21 F21v F21c V21 rfl rfl (by decide) (by decide)
  have z21 := E21.1; have y21 := X21.lt; have x21 := X21.lt'
  have nN21 := N21 a1 (C21.safe PE.lt (hSf _ (List.mem_singleton.mpr rfl)))
  refine g_getF B (hw _ (List.mem_of_getElem? (i := 25) rfl)) Via.refl F21v d3_11 (q := 14) rfl ?_
  refine g_putF B (hw _ (List.mem_of_getElem? (i := 25) rfl)) Via.refl (PV.ext E21) (PE.ext E21) (Or.inr ⟨(hw _ (List.mem_of_getElem? (i := 21) rfl)), rfl, rfl⟩) (hw _ (List.mem_of_getElem? (i := 6) rfl)) (ty := (.array .byte)) (by decide) rfl rfl d3_14 (C21.safe PE.lt (hSf _ (List.mem_singleton.mpr rfl))) (by omega) (q := 17) rfl ?_
  intro h23 W23 F23
  refine g_wt (fun Wt24 => ?_)
  have z23 := W23.size
  refine gs (mkF m 18 _ [(.ref a1)]) (fun T A t k => XS.aloadN A B.x rfl (B.d d3_17) rfl rfl k) ?_
  refine g_ldcS (z := (0 : Int32)) (vs := []) (n := 0) B (hw _ (List.mem_of_getElem? (i := 19) rfl)) (fun d hd => hw d (own_wstr d hd)) (by decide) (by decide) (by decide) rfl d3_18 (by decide) (by decide) (by decide) (by decide) (q := 20) rfl ?_
  intro h25 vm25 b25 t25 k25 hZ25 E25 C25 A25 F25c F25v V25 N25
  refine g_wt (fun Wt26 => ?_)
  have X25 : Str Z h25 b25 t25 ([] : List Int32) := Str.mk0 A25 F25v F25c V25 rfl rfl (by decide) (by decide)
  have z25 := E25.1; have y25 := X25.lt; have x25 := X25.lt'
  have nN25 := N25 a1 (C25.safe ((PE.ext E21).wr W23).lt (Safe.wr W23 (C21.safe PE.lt (hSf _ (List.mem_singleton.mpr rfl))) Wt22.2.2.1.1 (C21.safe PE.lt (hSf _ (List.mem_singleton.mpr rfl)))))
  refine g_getF B (hw _ (List.mem_of_getElem? (i := 26) rfl)) Via.refl F25c d3_20 (q := 23) rfl ?_
  refine g_putFN B (hw _ (List.mem_of_getElem? (i := 26) rfl)) Via.refl (((PC.ext E21).other W23 (Or.inr (slot_ne (Or.inr (hw _ (List.mem_of_getElem? (i := 22) rfl))) (Or.inr (hw _ (List.mem_of_getElem? (i := 21) rfl))) (by decide) (t := .byte) (t' := (.array .byte)) (by decide) (by decide)))).ext E25) (((PE.ext E21).wr W23).ext E25) (Or.inr ⟨(hw _ (List.mem_of_getElem? (i := 22) rfl)), rfl, rfl⟩) (hw _ (List.mem_of_getElem? (i := 6) rfl)) (ty := .byte) (v' := (.int (0 : Int32))) (by decide) rfl rfl d3_23 (C25.safe ((PE.ext E21).wr W23).lt (Safe.wr W23 (C21.safe PE.lt (hSf _ (List.mem_singleton.mpr rfl))) Wt22.2.2.1.1 (C21.safe PE.lt (hSf _ (List.mem_singleton.mpr rfl))))) (by omega) (q := 26) rfl ?_
  intro h27 W27 F27
  refine g_wt (fun Wt28 => ?_)
  have z27 := W27.size
  exact g_ret0 B d3_26 (by decide) (by decide) ⟨rfl, (((((Keep.refl h0 [a1]).ext E21).wr W23 (Or.inl (by simp))).ext E25).wr W27 (Or.inl (by simp))), t21, Str.mk0 ((((PE.ext E21).wr W23).ext E25).wr W27) ((F23.ext E25).other W27 (Or.inr (slot_ne (Or.inr (hw _ (List.mem_of_getElem? (i := 21) rfl))) (Or.inr (hw _ (List.mem_of_getElem? (i := 22) rfl))) (by decide) (t := (.array .byte)) (t' := .byte) (by decide) (by decide)))) F27 (((V21.other W23 (by omega : @Ne Nat t21 a1)).ext E25).other W27 (by omega : @Ne Nat t21 a1)) rfl rfl (by intro c hc; cases hc) (by simp)⟩
theorem d2_0 : decode jdk_42_method_3_code 0 = .ok (.aload_n 0, 1) := by decide +kernel
theorem d2_1 : decode jdk_42_method_3_code 1 = .ok (.aload_n 1, 1) := by decide +kernel
theorem d2_2 : decode jdk_42_method_3_code 2 = .ok (.iconst 0, 1) := by decide +kernel
theorem d2_3 : decode jdk_42_method_3_code 3 = .ok (.aload_n 1, 1) := by decide +kernel
theorem d2_4 : decode jdk_42_method_3_code 4 = .ok (.arraylength, 1) := by decide +kernel
theorem d2_5 : decode jdk_42_method_3_code 5 = .ok (.aconst_null, 1) := by decide +kernel
theorem pd_285bCIILjava2flang2fVoid3b29V : parseMethodDescriptor "([CIILjava/lang/Void;)V" = some ⟨[(.array .char), .int, .int, (.object "java/lang/Void")], none⟩ := by decide +kernel
theorem d2_6 : decode jdk_42_method_3_code 6 = .ok (.invokespecial 27, 3) := by decide +kernel
theorem d2_9 : decode jdk_42_method_3_code 9 = .ok (.return_, 1) := by decide +kernel
set_option maxRecDepth 65536 in
set_option maxHeartbeats 40000000 in
theorem w_init1 (l : Launch) (Z : State) (a0 : Array Value) (hw : ∀ d ∈ tables_1, d.before a0 Z = true) (hEL : EW Z a0 consts_1) (a1 : Addr) (a2 : Addr) (kc : ClassId) (h0 : Heap) (n0 : Nat) (PE : Exa Z h0 a1 "java/lang/String") (PV : Fld Z h0 a1 "java/lang/String" "value" "[B" .null) (PC : Fld Z h0 a1 "java/lang/String" "coder" "B" (.int (0 : Int32))) (hd : @LE.le Nat _ n0 a1) (PA : Arv Z h0 a2 kc .char (0 : Int32) [] (.int (0 : Int32))) :
    Met true Z consts_1 l (⟨"java/lang/String", "<init>", "([C)V"⟩ : MethodName) jdk_42_method_3_code 2 none ({ frames := 2, cells := 4, slots := 8, locals := 29 } : Room) #[(.ref a1), (.ref a2)] h0 [a1] n0 (fun v h => v = none ∧ Keep h0 h [a1] ∧ ∃ t : Addr, Str Z h a1 t ([] : List Int32)) := by
  refine Met.of (a0 := a0) (Ls := #[.val (.ref a1), .val (.ref a2)]) (fun z => (nomatch z)) (plainFor_of_name pn_java_lang_String) hEL (fun m => by first | (simp [entryFrame, mkF, argsToLocals, Value.category]; done) | rfl) ?_
  intro p e s m below meth c B hSf
  refine g_wt (fun Wt0 => ?_)
  have hlt1 : @LT.lt Nat _ a1 h0.size := PE.lt
  refine gs (mkF m 1 _ [(.ref a1)]) (fun T A t k => XS.aloadN A B.x rfl (B.d d2_0) rfl rfl k) ?_
  refine gs (mkF m 2 _ [(.ref a2), (.ref a1)]) (fun T A t k => XS.aloadN A B.x rfl (B.d d2_1) rfl rfl k) ?_
  refine gs (mkF m 3 _ [(.int (0 : Int32)), (.ref a2), (.ref a1)]) (fun T A t k => XS.iconst A B.x rfl (B.d d2_2) k) ?_
  refine gs (mkF m 4 _ [(.ref a2), (.int (0 : Int32)), (.ref a2), (.ref a1)]) (fun T A t k => XS.aloadN A B.x rfl (B.d d2_3) rfl rfl k) ?_
  refine g_len B PA d2_4 (q := 5) rfl ?_
  refine gs (mkF m 6 _ [.null, (.int (0 : Int32)), (.int (0 : Int32)), (.ref a2), (.ref a1)]) (fun T A t k => XS.aconstNull A B.x rfl (B.d d2_5) k) ?_
  refine g_met hEL (c_init B rfl (hw _ (List.mem_of_getElem? (i := 12) rfl)) (hw _ (List.mem_of_getElem? (i := 13) rfl)) (hw _ (List.mem_of_getElem? (i := 15) rfl)) (by decide) rfl (lenOf pd_285bCIILjava2flang2fVoid3b29V rfl) rfl (Nat.le_of_eq rfl) d2_6 rfl (argsL := [(.ref a2), (.int (0 : Int32)), (.int (0 : Int32)), .null]) (rest := []) (W := 0) (q := 9)) (w_init4 l Z a0 hw hEL a1 a2 h0 n0 PE PV PC (by omega)) (hw _ (List.mem_of_getElem? (i := 15) rfl)) (hw _ (List.mem_of_getElem? (i := 7) rfl)) (by decide) (by decide) (by decide) (by decide) (fun x hx => by cases List.mem_singleton.mp hx; exact ⟨(hSf _ (List.mem_singleton.mpr rfl)), PE.lt⟩) ?_
  intro v21 h21 vm21 hZ21 C21 hQ21
  obtain ⟨rfl, K21, t21, X21⟩ := hQ21
  refine g_wt (fun Wt22 => ?_)
  have z21 := K21.1; have y21 := X21.lt; have x21 := X21.lt'
  exact g_ret0 B d2_9 (by decide) (by decide) ⟨rfl, ((Keep.refl h0 [a1]).trans K21 (allS (Or.inl (by simp)) all0)), _, X21⟩
theorem pd_28I29C : parseMethodDescriptor "(I)C" = some ⟨[.int], some .char⟩ := by decide +kernel
theorem pd_285bC29V : parseMethodDescriptor "([C)V" = some ⟨[(.array .char)], none⟩ := by decide +kernel
theorem pn_com_example_multi_domain_access_multidomainaccess_Names : plainName "com/example/multi_domain_access/multidomainaccess/Names" = true := by first | (simp [plainName, overriddenIn]; done) | decide +kernel
theorem d5_0 : decode prog_11_method_7_code 0 = .ok (.aload_n 0, 1) := by decide +kernel
theorem d5_1 : decode prog_11_method_7_code 1 = .ok (.bipush 46, 2) := by decide +kernel
theorem d6_0 : decode jdk_42_method_79_code 0 = .ok (.aload_n 0, 1) := by decide +kernel
theorem d6_1 : decode jdk_42_method_79_code 1 = .ok (.iload_n 1, 1) := by decide +kernel
theorem d6_2 : decode jdk_42_method_79_code 2 = .ok (.iconst 0, 1) := by decide +kernel
theorem d7_0 : decode jdk_42_method_80_code 0 = .ok (.aload_n 0, 1) := by decide +kernel
theorem d8_0 : decode jdk_42_method_154_code 0 = .ok (.getstatic 38, 3) := by decide +kernel
theorem d8_3 : decode jdk_42_method_154_code 3 = .ok (.ifCond .eq 14, 3) := by decide +kernel
theorem d8_6 : decode jdk_42_method_154_code 6 = .ok (.aload_n 0, 1) := by decide +kernel
theorem d8_7 : decode jdk_42_method_154_code 7 = .ok (.getfield 15, 3) := by decide +kernel
theorem d8_10 : decode jdk_42_method_154_code 10 = .ok (.ifCond .ne 7, 3) := by decide +kernel
theorem d8_13 : decode jdk_42_method_154_code 13 = .ok (.iconst 1, 1) := by decide +kernel
theorem d8_14 : decode jdk_42_method_154_code 14 = .ok (.goto 4, 3) := by decide +kernel
theorem d8_18 : decode jdk_42_method_154_code 18 = .ok (.ireturn, 1) := by decide +kernel
set_option maxRecDepth 65536 in
set_option maxHeartbeats 40000000 in
theorem n_isLatin1_0 (l : Launch) (Z : State) (a0 : Array Value) (hw : ∀ d ∈ tables_1, d.before a0 Z = true) (hEL : EW Z a0 []) (a1 : Addr) (zc : Int32) (rv : Value) (h0 : Heap) (n0 : Nat) (PE : Exa Z h0 a1 "java/lang/String") (PC : Fld Z h0 a1 "java/lang/String" "coder" "B" (.int (0 : Int32))) (PX : Sts Z zc rv) (PO : Old Z n0 h0) :
    Met false Z [] l (⟨"java/lang/String", "isLatin1", "()Z"⟩ : MethodName) jdk_42_method_154_code 1 (some .boolean) ({ frames := 0, cells := 0, slots := 0, locals := 0 } : Room) #[(.ref a1)] h0 [] n0 (fun v h => v = some (.int (1 : Int32)) ∧ h0 = h) := by
  refine Met.of (a0 := a0) (Ls := #[.val (.ref a1)]) (fun z => rfl) (plainFor_of_name pn_java_lang_String) hEL (fun m => by first | (simp [entryFrame, mkF, argsToLocals, Value.category]; done) | rfl) ?_
  intro p e s m below meth c B hSf
  obtain ⟨SC, hzc, SA, SH, SL, SF, rf⟩ := id PX
  refine g_getS B (hw _ (List.mem_of_getElem? (i := 46) rfl)) (SC.ext PO.2) d8_0 (q := 3) rfl ?_
  refine gs (mkF m 6 _ []) (fun T A t k => XS.ifNo A B.x rfl (B.d d8_3) rfl ((if0 _ _).trans (feq (hzc : ¬ (zc = (0 : Int32)))).1) k) ?_
  refine gs (mkF m 7 _ [(.ref a1)]) (fun T A t k => XS.aloadN A B.x rfl (B.d d8_6) rfl rfl k) ?_
  refine g_getF B (hw _ (List.mem_of_getElem? (i := 26) rfl)) Via.refl PC d8_7 (q := 10) rfl ?_
  refine gs (mkF m 13 _ []) (fun T A t k => XS.ifNo A B.x rfl (B.d d8_10) rfl ((if0 _ _).trans (teq (by decide : (0 : Int32) = (0 : Int32))).2) k) ?_
  refine gs (mkF m 14 _ [(.int (1 : Int32))]) (fun T A t k => XS.iconst A B.x rfl (B.d d8_13) k) ?_
  refine gs (mkF m 18 _ [(.int (1 : Int32))]) (fun T A t k => XS.goto A B.x rfl (pc0 := 14) (pc' := 18) rfl (B.d d8_14) (by decide) (by decide) k) ?_
  exact g_retN (t := .boolean) B (by simp) d8_18 (by decide) (by decide) ⟨rfl, rfl⟩
theorem pd_2829Z : parseMethodDescriptor "()Z" = some ⟨[], some .boolean⟩ := by decide +kernel
theorem d7_1 : decode jdk_42_method_80_code 1 = .ok (.invokevirtual 492, 3) := by decide +kernel
theorem d7_4 : decode jdk_42_method_80_code 4 = .ok (.ifCond .eq 19, 3) := by decide +kernel
theorem d7_7 : decode jdk_42_method_80_code 7 = .ok (.aload_n 0, 1) := by decide +kernel
theorem d7_8 : decode jdk_42_method_80_code 8 = .ok (.getfield 9, 3) := by decide +kernel
theorem d7_11 : decode jdk_42_method_80_code 11 = .ok (.iload_n 1, 1) := by decide +kernel
theorem d7_12 : decode jdk_42_method_80_code 12 = .ok (.iload_n 2, 1) := by decide +kernel
theorem d7_13 : decode jdk_42_method_80_code 13 = .ok (.aload_n 0, 1) := by decide +kernel
theorem d9_0 : decode jdk_42_method_54_code 0 = .ok (.aload_n 0, 1) := by decide +kernel
theorem d9_1 : decode jdk_42_method_54_code 1 = .ok (.getfield 9, 3) := by decide +kernel
theorem d9_4 : decode jdk_42_method_54_code 4 = .ok (.arraylength, 1) := by decide +kernel
theorem d9_5 : decode jdk_42_method_54_code 5 = .ok (.aload_n 0, 1) := by decide +kernel
theorem d10_0 : decode jdk_42_method_152_code 0 = .ok (.getstatic 38, 3) := by decide +kernel
theorem d10_3 : decode jdk_42_method_152_code 3 = .ok (.ifCond .eq 10, 3) := by decide +kernel
theorem d10_6 : decode jdk_42_method_152_code 6 = .ok (.aload_n 0, 1) := by decide +kernel
theorem d10_7 : decode jdk_42_method_152_code 7 = .ok (.getfield 15, 3) := by decide +kernel
theorem d10_10 : decode jdk_42_method_152_code 10 = .ok (.goto 4, 3) := by decide +kernel
theorem d10_14 : decode jdk_42_method_152_code 14 = .ok (.ireturn, 1) := by decide +kernel
set_option maxRecDepth 65536 in
set_option maxHeartbeats 40000000 in
theorem n_coder_0 (l : Launch) (Z : State) (a0 : Array Value) (hw : ∀ d ∈ tables_1, d.before a0 Z = true) (hEL : EW Z a0 []) (a1 : Addr) (zc : Int32) (rv : Value) (h0 : Heap) (n0 : Nat) (PE : Exa Z h0 a1 "java/lang/String") (PC : Fld Z h0 a1 "java/lang/String" "coder" "B" (.int (0 : Int32))) (PX : Sts Z zc rv) (PO : Old Z n0 h0) :
    Met false Z [] l (⟨"java/lang/String", "coder", "()B"⟩ : MethodName) jdk_42_method_152_code 1 (some .byte) ({ frames := 0, cells := 0, slots := 0, locals := 0 } : Room) #[(.ref a1)] h0 [] n0 (fun v h => v = some (.int (0 : Int32)) ∧ h0 = h) := by
  refine Met.of (a0 := a0) (Ls := #[.val (.ref a1)]) (fun z => rfl) (plainFor_of_name pn_java_lang_String) hEL (fun m => by first | (simp [entryFrame, mkF, argsToLocals, Value.category]; done) | rfl) ?_
  intro p e s m below meth c B hSf
  obtain ⟨SC, hzc, SA, SH, SL, SF, rf⟩ := id PX
  refine g_getS B (hw _ (List.mem_of_getElem? (i := 46) rfl)) (SC.ext PO.2) d10_0 (q := 3) rfl ?_
  refine gs (mkF m 6 _ []) (fun T A t k => XS.ifNo A B.x rfl (B.d d10_3) rfl ((if0 _ _).trans (feq (hzc : ¬ (zc = (0 : Int32)))).1) k) ?_
  refine gs (mkF m 7 _ [(.ref a1)]) (fun T A t k => XS.aloadN A B.x rfl (B.d d10_6) rfl rfl k) ?_
  refine g_getF B (hw _ (List.mem_of_getElem? (i := 26) rfl)) Via.refl PC d10_7 (q := 10) rfl ?_
  refine gs (mkF m 14 _ [(.int (0 : Int32))]) (fun T A t k => XS.goto A B.x rfl (pc0 := 10) (pc' := 14) rfl (B.d d10_10) (by decide) (by decide) k) ?_
  exact g_retN (t := .byte) B (by simp) d10_14 (by decide) (by decide) ⟨rfl, rfl⟩
theorem pd_2829B : parseMethodDescriptor "()B" = some ⟨[], some .byte⟩ := by decide +kernel
theorem d9_6 : decode jdk_42_method_54_code 6 = .ok (.invokevirtual 335, 3) := by decide +kernel
theorem d9_9 : decode jdk_42_method_54_code 9 = .ok (.ishr, 1) := by decide +kernel
theorem d9_10 : decode jdk_42_method_54_code 10 = .ok (.ireturn, 1) := by decide +kernel
set_option maxRecDepth 65536 in
set_option maxHeartbeats 40000000 in
theorem n_length_0_0 (l : Launch) (Z : State) (a0 : Array Value) (hw : ∀ d ∈ tables_1, d.before a0 Z = true) (hEL : EW Z a0 []) (a1 : Addr) (zc : Int32) (rv : Value) (t : Addr) (kb : ClassId)  (h0 : Heap) (n0 : Nat) (PE : Exa Z h0 a1 "java/lang/String") (PC : Fld Z h0 a1 "java/lang/String" "coder" "B" (.int (0 : Int32))) (PV : Fld Z h0 a1 "java/lang/String" "value" "[B" (.ref t)) (PA : Arv Z h0 t kb .byte (0 : Int32) [] (.int (0 : Int32))) (PX : Sts Z zc rv) (PO : Old Z n0 h0) :
    Met false Z [] l (⟨"java/lang/String", "length", "()I"⟩ : MethodName) jdk_42_method_54_code 1 (some .int) ({ frames := 1, cells := 0, slots := 0, locals := 13 } : Room) #[(.ref a1)] h0 [] n0 (fun v h => v = some (.int (0 : Int32)) ∧ h0 = h) := by
  refine Met.of (a0 := a0) (Ls := #[.val (.ref a1)]) (fun z => rfl) (plainFor_of_name pn_java_lang_String) hEL (fun m => by first | (simp [entryFrame, mkF, argsToLocals, Value.category]; done) | rfl) ?_
  intro p e s m below meth c B hSf
  obtain ⟨SC, hzc, SA, SH, SL, SF, rf⟩ := id PX
  refine gs (mkF m 1 _ [(.ref a1)]) (fun T A t k => XS.aloadN A B.x rfl (B.d d9_0) rfl rfl k) ?_
  refine g_getF B (hw _ (List.mem_of_getElem? (i := 25) rfl)) Via.refl PV d9_1 (q := 4) rfl ?_
  refine g_len B PA d9_4 (q := 5) rfl ?_
  refine gs (mkF m 6 _ [(.ref a1), (.int (0 : Int32))]) (fun T A t k => XS.aloadN A B.x rfl (B.d d9_5) rfl rfl k) ?_
  refine g_metN (c_virt B PE (hw _ (List.mem_of_getElem? (i := 52) rfl)) (hw _ (List.mem_of_getElem? (i := 53) rfl)) (hw _ (List.mem_of_getElem? (i := 55) rfl)) (hw _ (List.mem_of_getElem? (i := 54) rfl)) (nfs (z := (⟨"java/lang/String", "coder", "()B"⟩ : MethodName)) (hw _ (List.mem_of_getElem? (i := 55) rfl))) (by decide) rfl (lenOf pd_2829B rfl) rfl (Nat.le_of_eq rfl) d9_6 rfl (argsL := []) (rest := [(.int (0 : Int32))]) (W := 1) (q := 9)) (n_coder_0 l Z a0 hw hEL a1 zc rv h0 n0 PE PC PX PO) (hw _ (List.mem_of_getElem? (i := 56) rfl)) (hw _ (List.mem_of_getElem? (i := 7) rfl)) (by decide) (by decide) (by decide) (by decide) ?_
  intro v21 h21 hz21 hQ21
  obtain ⟨rfl, rfl⟩ := hQ21
  refine gs (mkF m 10 _ [(.int (0 : Int32))]) (fun T A t k => XS.ishr A B.x rfl (B.d d9_9) rfl k) ?_
  exact g_retI B d9_10 (by decide) (by decide) ⟨rfl, rfl⟩
theorem pd_2829I : parseMethodDescriptor "()I" = some ⟨[], some .int⟩ := by decide +kernel
theorem d7_14 : decode jdk_42_method_80_code 14 = .ok (.invokevirtual 505, 3) := by decide +kernel
theorem pn_java_lang_StringLatin1 : plainName "java/lang/StringLatin1" = true := by first | (simp [plainName, overriddenIn]; done) | decide +kernel
theorem d11_0 : decode jdk_43_method_22_code 0 = .ok (.iload_n 1, 1) := by decide +kernel
theorem d12_0 : decode jdk_43_method_4_code 0 = .ok (.iload_n 0, 1) := by decide +kernel
theorem d12_1 : decode jdk_43_method_4_code 1 = .ok (.ifCond .lt 14, 3) := by decide +kernel
theorem d12_4 : decode jdk_43_method_4_code 4 = .ok (.iload_n 0, 1) := by decide +kernel
theorem d12_5 : decode jdk_43_method_4_code 5 = .ok (.sipush 255, 3) := by decide +kernel
theorem d12_8 : decode jdk_43_method_4_code 8 = .ok (.if_icmp .gt 7, 3) := by decide +kernel
theorem d12_11 : decode jdk_43_method_4_code 11 = .ok (.iconst 1, 1) := by decide +kernel
theorem d12_12 : decode jdk_43_method_4_code 12 = .ok (.goto 4, 3) := by decide +kernel
theorem d12_16 : decode jdk_43_method_4_code 16 = .ok (.ireturn, 1) := by decide +kernel
set_option maxRecDepth 65536 in
set_option maxHeartbeats 40000000 in
theorem n_ce_46 (l : Launch) (Z : State) (a0 : Array Value) (hw : ∀ d ∈ tables_1, d.before a0 Z = true) (hEL : EW Z a0 [])   (h0 : Heap) (n0 : Nat)  :
    Met false Z [] l (⟨"java/lang/StringLatin1", "canEncode", "(I)Z"⟩ : MethodName) jdk_43_method_4_code 1 (some .boolean) ({ frames := 0, cells := 0, slots := 0, locals := 0 } : Room) #[(.int (46 : Int32))] h0 [] n0 (fun v h => v = some (.int (1 : Int32)) ∧ h0 = h) := by
  refine Met.of (a0 := a0) (Ls := #[.val (.int (46 : Int32))]) (fun z => rfl) (plainFor_of_name pn_java_lang_StringLatin1) hEL (fun m => by first | (simp [entryFrame, mkF, argsToLocals, Value.category]; done) | rfl) ?_
  intro p e s m below meth c B hSf
  refine gs (mkF m 1 _ [(.int (46 : Int32))]) (fun T A t k => XS.iloadN A B.x rfl (B.d d12_0) rfl k) ?_
  refine gs (mkF m 4 _ []) (fun T A t k => XS.ifNo A B.x rfl (B.d d12_1) rfl ((if0 _ _).trans (flt (by decide : ¬ ((46 : Int32) < (0 : Int32)))).1) k) ?_
  refine gs (mkF m 5 _ [(.int (46 : Int32))]) (fun T A t k => XS.iloadN A B.x rfl (B.d d12_4) rfl k) ?_
  refine gs (mkF m 8 _ [(.int (255 : Int32)), (.int (46 : Int32))]) (fun T A t k => XS.sipush A B.x rfl (B.d d12_5) k) ?_
  refine gs (mkF m 11 _ []) (fun T A t k => XS.icmpNo A B.x rfl (B.d d12_8) rfl (flt (by decide : ¬ ((255 : Int32) < (46 : Int32)))).2.2.1 k) ?_
  refine gs (mkF m 12 _ [(.int (1 : Int32))]) (fun T A t k => XS.iconst A B.x rfl (B.d d12_11) k) ?_
  refine gs (mkF m 16 _ [(.int (1 : Int32))]) (fun T A t k => XS.goto A B.x rfl (pc0 := 12) (pc' := 16) rfl (B.d d12_12) (by decide) (by decide) k) ?_
  exact g_retN (t := .boolean) B (by simp) d12_16 (by decide) (by decide) ⟨rfl, rfl⟩
theorem pd_28I29Z : parseMethodDescriptor "(I)Z" = some ⟨[.int], some .boolean⟩ := by decide +kernel
theorem d11_1 : decode jdk_43_method_22_code 1 = .ok (.invokestatic 88, 3) := by decide +kernel
theorem d11_4 : decode jdk_43_method_22_code 4 = .ok (.ifCond .ne 5, 3) := by decide +kernel
theorem d11_9 : decode jdk_43_method_22_code 9 = .ok (.iload_n 2, 1) := by decide +kernel
theorem d11_10 : decode jdk_43_method_22_code 10 = .ok (.iconst 0, 1) := by decide +kernel
theorem d13_0 : decode jdk_29_method_65_code 0 = .ok (.iload_n 0, 1) := by decide +kernel
theorem d13_1 : decode jdk_29_method_65_code 1 = .ok (.iload_n 1, 1) := by decide +kernel
theorem d13_2 : decode jdk_29_method_65_code 2 = .ok (.if_icmp .lt 7, 3) := by decide +kernel
theorem d13_5 : decode jdk_29_method_65_code 5 = .ok (.iload_n 0, 1) := by decide +kernel
theorem d13_6 : decode jdk_29_method_65_code 6 = .ok (.goto 4, 3) := by decide +kernel
theorem d13_10 : decode jdk_29_method_65_code 10 = .ok (.ireturn, 1) := by decide +kernel
set_option maxRecDepth 65536 in
set_option maxHeartbeats 40000000 in
theorem n_max_0_0 (l : Launch) (Z : State) (a0 : Array Value) (hw : ∀ d ∈ tables_1, d.before a0 Z = true) (hEL : EW Z a0 [])   (h0 : Heap) (n0 : Nat)  :
    Met false Z [] l (⟨"java/lang/Math", "max", "(II)I"⟩ : MethodName) jdk_29_method_65_code 2 (some .int) ({ frames := 0, cells := 0, slots := 0, locals := 0 } : Room) #[(.int (0 : Int32)), (.int (0 : Int32))] h0 [] n0 (fun v h => v = some (.int (0 : Int32)) ∧ h0 = h) := by
  refine Met.of (a0 := a0) (Ls := #[.val (.int (0 : Int32)), .val (.int (0 : Int32))]) (fun z => rfl) (Jvm.Free.JP.mathPlain rfl (by decide +kernel)) hEL (fun m => by first | (simp [entryFrame, mkF, argsToLocals, Value.category]; done) | rfl) ?_
  intro p e s m below meth c B hSf
  refine gs (mkF m 1 _ [(.int (0 : Int32))]) (fun T A t k => XS.iloadN A B.x rfl (B.d d13_0) rfl k) ?_
  refine gs (mkF m 2 _ [(.int (0 : Int32)), (.int (0 : Int32))]) (fun T A t k => XS.iloadN A B.x rfl (B.d d13_1) rfl k) ?_
  refine gs (mkF m 5 _ []) (fun T A t k => XS.icmpNo A B.x rfl (B.d d13_2) rfl (flt (by decide : ¬ ((0 : Int32) < (0 : Int32)))).1 k) ?_
  refine gs (mkF m 6 _ [(.int (0 : Int32))]) (fun T A t k => XS.iloadN A B.x rfl (B.d d13_5) rfl k) ?_
  refine gs (mkF m 10 _ [(.int (0 : Int32))]) (fun T A t k => XS.goto A B.x rfl (pc0 := 6) (pc' := 10) rfl (B.d d13_6) (by decide) (by decide) k) ?_
  exact g_retI B d13_10 (by decide) (by decide) ⟨rfl, rfl⟩
theorem pd_28II29I : parseMethodDescriptor "(II)I" = some ⟨[.int, .int], some .int⟩ := by decide +kernel
theorem d11_11 : decode jdk_43_method_22_code 11 = .ok (.invokestatic 92, 3) := by decide +kernel
theorem d11_14 : decode jdk_43_method_22_code 14 = .ok (.istore_n 2, 1) := by decide +kernel
theorem d11_15 : decode jdk_43_method_22_code 15 = .ok (.iload_n 3, 1) := by decide +kernel
theorem d11_16 : decode jdk_43_method_22_code 16 = .ok (.aload_n 0, 1) := by decide +kernel
theorem d11_17 : decode jdk_43_method_22_code 17 = .ok (.arraylength, 1) := by decide +kernel
theorem d14_0 : decode jdk_29_method_69_code 0 = .ok (.iload_n 0, 1) := by decide +kernel
theorem d14_1 : decode jdk_29_method_69_code 1 = .ok (.iload_n 1, 1) := by decide +kernel
theorem d14_2 : decode jdk_29_method_69_code 2 = .ok (.if_icmp .gt 7, 3) := by decide +kernel
theorem d14_5 : decode jdk_29_method_69_code 5 = .ok (.iload_n 0, 1) := by decide +kernel
theorem d14_6 : decode jdk_29_method_69_code 6 = .ok (.goto 4, 3) := by decide +kernel
theorem d14_10 : decode jdk_29_method_69_code 10 = .ok (.ireturn, 1) := by decide +kernel
set_option maxRecDepth 65536 in
set_option maxHeartbeats 40000000 in
theorem n_min_0_0 (l : Launch) (Z : State) (a0 : Array Value) (hw : ∀ d ∈ tables_1, d.before a0 Z = true) (hEL : EW Z a0 [])   (h0 : Heap) (n0 : Nat)  :
    Met false Z [] l (⟨"java/lang/Math", "min", "(II)I"⟩ : MethodName) jdk_29_method_69_code 2 (some .int) ({ frames := 0, cells := 0, slots := 0, locals := 0 } : Room) #[(.int (0 : Int32)), (.int (0 : Int32))] h0 [] n0 (fun v h => v = some (.int (0 : Int32)) ∧ h0 = h) := by
  refine Met.of (a0 := a0) (Ls := #[.val (.int (0 : Int32)), .val (.int (0 : Int32))]) (fun z => rfl) (Jvm.Free.JP.mathPlain rfl (by decide +kernel)) hEL (fun m => by first | (simp [entryFrame, mkF, argsToLocals, Value.category]; done) | rfl) ?_
  intro p e s m below meth c B hSf
  refine gs (mkF m 1 _ [(.int (0 : Int32))]) (fun T A t k => XS.iloadN A B.x rfl (B.d d14_0) rfl k) ?_
  refine gs (mkF m 2 _ [(.int (0 : Int32)), (.int (0 : Int32))]) (fun T A t k => XS.iloadN A B.x rfl (B.d d14_1) rfl k) ?_
  refine gs (mkF m 5 _ []) (fun T A t k => XS.icmpNo A B.x rfl (B.d d14_2) rfl (flt (by decide : ¬ ((0 : Int32) < (0 : Int32)))).2.2.1 k) ?_
  refine gs (mkF m 6 _ [(.int (0 : Int32))]) (fun T A t k => XS.iloadN A B.x rfl (B.d d14_5) rfl k) ?_
  refine gs (mkF m 10 _ [(.int (0 : Int32))]) (fun T A t k => XS.goto A B.x rfl (pc0 := 6) (pc' := 10) rfl (B.d d14_6) (by decide) (by decide) k) ?_
  exact g_retI B d14_10 (by decide) (by decide) ⟨rfl, rfl⟩
theorem d11_18 : decode jdk_43_method_22_code 18 = .ok (.invokestatic 38, 3) := by decide +kernel
theorem d11_21 : decode jdk_43_method_22_code 21 = .ok (.istore_n 3, 1) := by decide +kernel
theorem d11_22 : decode jdk_43_method_22_code 22 = .ok (.iload_n 2, 1) := by decide +kernel
theorem d11_23 : decode jdk_43_method_22_code 23 = .ok (.iload_n 3, 1) := by decide +kernel
theorem d11_24 : decode jdk_43_method_22_code 24 = .ok (.if_icmp .lt 5, 3) := by decide +kernel
theorem d11_27 : decode jdk_43_method_22_code 27 = .ok (.iconst (-1), 1) := by decide +kernel
theorem d11_28 : decode jdk_43_method_22_code 28 = .ok (.ireturn, 1) := by decide +kernel
set_option maxRecDepth 65536 in
set_option maxHeartbeats 40000000 in
theorem n_l_indexOf_46_0 (l : Launch) (Z : State) (a0 : Array Value) (hw : ∀ d ∈ tables_1, d.before a0 Z = true) (hEL : EW Z a0 []) (a1 : Addr) (zc : Int32) (rv : Value) (kb : ClassId)  (h0 : Heap) (n0 : Nat) (PA : Arv Z h0 a1 kb .byte (0 : Int32) [] (.int (0 : Int32)))   (PX : Sts Z zc rv) (PO : Old Z n0 h0) :
    Met false Z [] l (⟨"java/lang/StringLatin1", "indexOf", "([BIII)I"⟩ : MethodName) jdk_43_method_22_code 4 (some .int) ({ frames := 1, cells := 0, slots := 0, locals := 13 } : Room) #[(.ref a1), (.int (46 : Int32)), (.int (0 : Int32)), (.int (0 : Int32))] h0 [] n0 (fun v h => v = some (.int (-1 : Int32)) ∧ h0 = h) := by
  refine Met.of (a0 := a0) (Ls := #[.val (.ref a1), .val (.int (46 : Int32)), .val (.int (0 : Int32)), .val (.int (0 : Int32))]) (fun z => rfl) (plainFor_of_name pn_java_lang_StringLatin1) hEL (fun m => by first | (simp [entryFrame, mkF, argsToLocals, Value.category]; done) | rfl) ?_
  intro p e s m below meth c B hSf
  obtain ⟨SC, hzc, SA, SH, SL, SF, rf⟩ := id PX
  refine gs (mkF m 1 _ [(.int (46 : Int32))]) (fun T A t k => XS.iloadN A B.x rfl (B.d d11_0) rfl k) ?_
  refine g_metN (c_static B (hw _ (List.mem_of_getElem? (i := 61) rfl)) (hw _ (List.mem_of_getElem? (i := 62) rfl)) (hw _ (List.mem_of_getElem? (i := 59) rfl)) (hw _ (List.mem_of_getElem? (i := 63) rfl)) (by decide) rfl (lenOf pd_28I29Z rfl) rfl (Nat.le_of_eq rfl) d11_1 rfl (argsL := [(.int (46 : Int32))]) (rest := []) (W := 0) (q := 4)) (n_ce_46 l Z a0 hw hEL  h0 n0) (hw _ (List.mem_of_getElem? (i := 63) rfl)) (hw _ (List.mem_of_getElem? (i := 59) rfl)) (by decide) (by decide) (by decide) (by decide) ?_
  intro v21 h21 hz21 hQ21
  obtain ⟨rfl, rfl⟩ := hQ21
  refine gs (mkF m 9 _ []) (fun T A t k => XS.ifYes A B.x rfl (pc0 := 4) (pc' := 9) rfl (B.d d11_4) rfl ((if0 _ _).trans (feq (by decide : ¬ ((1 : Int32) = (0 : Int32)))).2) (by decide) (by decide) k) ?_
  refine gs (mkF m 10 _ [(.int (0 : Int32))]) (fun T A t k => XS.iloadN A B.x rfl (B.d d11_9) rfl k) ?_
  refine gs (mkF m 11 _ [(.int (0 : Int32)), (.int (0 : Int32))]) (fun T A t k => XS.iconst A B.x rfl (B.d d11_10) k) ?_
  refine g_metN (c_static B (hw _ (List.mem_of_getElem? (i := 64) rfl)) (hw _ (List.mem_of_getElem? (i := 65) rfl)) (hw _ (List.mem_of_getElem? (i := 66) rfl)) (hw _ (List.mem_of_getElem? (i := 67) rfl)) (by decide) rfl (lenOf pd_28II29I rfl) rfl (Nat.le_of_eq rfl) d11_11 rfl (argsL := [(.int (0 : Int32)), (.int (0 : Int32))]) (rest := []) (W := 0) (q := 14)) (n_max_0_0 l Z a0 hw hEL  h0 n0) (hw _ (List.mem_of_getElem? (i := 67) rfl)) (hw _ (List.mem_of_getElem? (i := 66) rfl)) (by decide) (by decide) (by decide) (by decide) ?_
  intro v22 h22 hz22 hQ22
  obtain ⟨rfl, rfl⟩ := hQ22
  refine gs (mkF m 15 #[.val (.ref a1), .val (.int (46 : Int32)), .val (.int (0 : Int32)), .val (.int (0 : Int32))] []) (fun T A t k => XS.istoreN A B.x rfl (B.d d11_14) rfl (l' := #[.val (.ref a1), .val (.int (46 : Int32)), .val (.int (0 : Int32)), .val (.int (0 : Int32))]) rfl k) ?_
  refine gs (mkF m 16 _ [(.int (0 : Int32))]) (fun T A t k => XS.iloadN A B.x rfl (B.d d11_15) rfl k) ?_
  refine gs (mkF m 17 _ [(.ref a1), (.int (0 : Int32))]) (fun T A t k => XS.aloadN A B.x rfl (B.d d11_16) rfl rfl k) ?_
  refine g_len B PA d11_17 (q := 18) rfl ?_
  refine g_metN (c_static B (hw _ (List.mem_of_getElem? (i := 68) rfl)) (hw _ (List.mem_of_getElem? (i := 69) rfl)) (hw _ (List.mem_of_getElem? (i := 66) rfl)) (hw _ (List.mem_of_getElem? (i := 70) rfl)) (by decide) rfl (lenOf pd_28II29I rfl) rfl (Nat.le_of_eq rfl) d11_18 rfl (argsL := [(.int (0 : Int32)), (.int (0 : Int32))]) (rest := []) (W := 0) (q := 21)) (n_min_0_0 l Z a0 hw hEL  h0 n0) (hw _ (List.mem_of_getElem? (i := 70) rfl)) (hw _ (List.mem_of_getElem? (i := 66) rfl)) (by decide) (by decide) (by decide) (by decide) ?_
  intro v23 h23 hz23 hQ23
  obtain ⟨rfl, rfl⟩ := hQ23
  refine gs (mkF m 22 #[.val (.ref a1), .val (.int (46 : Int32)), .val (.int (0 : Int32)), .val (.int (0 : Int32))] []) (fun T A t k => XS.istoreN A B.x rfl (B.d d11_21) rfl (l' := #[.val (.ref a1), .val (.int (46 : Int32)), .val (.int (0 : Int32)), .val (.int (0 : Int32))]) rfl k) ?_
  refine gs (mkF m 23 _ [(.int (0 : Int32))]) (fun T A t k => XS.iloadN A B.x rfl (B.d d11_22) rfl k) ?_
  refine gs (mkF m 24 _ [(.int (0 : Int32)), (.int (0 : Int32))]) (fun T A t k => XS.iloadN A B.x rfl (B.d d11_23) rfl k) ?_
  refine gs (mkF m 27 _ []) (fun T A t k => XS.icmpNo A B.x rfl (B.d d11_24) rfl (flt (by decide : ¬ ((0 : Int32) < (0 : Int32)))).1 k) ?_
  refine gs (mkF m 28 _ [(.int (-1 : Int32))]) (fun T A t k => XS.iconst A B.x rfl (B.d d11_27) k) ?_
  exact g_retI B d11_28 (by decide) (by decide) ⟨rfl, rfl⟩
theorem pd_285bBIII29I : parseMethodDescriptor "([BIII)I" = some ⟨[(.array .byte), .int, .int, .int], some .int⟩ := by decide +kernel
theorem d7_17 : decode jdk_42_method_80_code 17 = .ok (.invokestatic 637, 3) := by decide +kernel
theorem d7_20 : decode jdk_42_method_80_code 20 = .ok (.goto 16, 3) := by decide +kernel
theorem d7_36 : decode jdk_42_method_80_code 36 = .ok (.ireturn, 1) := by decide +kernel
set_option maxRecDepth 65536 in
set_option maxHeartbeats 40000000 in
theorem n_idx2_46_0 (l : Launch) (Z : State) (a0 : Array Value) (hw : ∀ d ∈ tables_1, d.before a0 Z = true) (hEL : EW Z a0 []) (a1 : Addr) (zc : Int32) (rv : Value) (t : Addr)  (h0 : Heap) (n0 : Nat) (PS : Str Z h0 a1 t ([] : List Int32)) (PX : Sts Z zc rv) (PO : Old Z n0 h0) :
    Met false Z [] l (⟨"java/lang/String", "indexOf", "(II)I"⟩ : MethodName) jdk_42_method_80_code 3 (some .int) ({ frames := 2, cells := 0, slots := 0, locals := 28 } : Room) #[(.ref a1), (.int (46 : Int32)), (.int (0 : Int32))] h0 [] n0 (fun v h => v = some (.int (-1 : Int32)) ∧ h0 = h) := by
  refine Met.of (a0 := a0) (Ls := #[.val (.ref a1), .val (.int (46 : Int32)), .val (.int (0 : Int32))]) (fun z => rfl) (plainFor_of_name pn_java_lang_String) hEL (fun m => by first | (simp [entryFrame, mkF, argsToLocals, Value.category]; done) | rfl) ?_
  intro p e s m below meth c B hSf
  obtain ⟨SC, hzc, SA, SH, SL, SF, rf⟩ := id PX
  obtain ⟨PE, PV, cd, N2, vs, kb, PC, PA0, hcod, hb, -⟩ := PS
  rcases hcod with ⟨rfl, rfl, rfl, hlat⟩ | ⟨rfl, rfl, rfl, hwd⟩
  · have PA : Arv Z h0 t kb .byte (0 : Int32) [] (.int (0 : Int32)) := PA0
    refine gs (mkF m 1 _ [(.ref a1)]) (fun T A t k => XS.aloadN A B.x rfl (B.d d7_0) rfl rfl k) ?_
    refine g_metN (c_virt B PE (hw _ (List.mem_of_getElem? (i := 41) rfl)) (hw _ (List.mem_of_getElem? (i := 42) rfl)) (hw _ (List.mem_of_getElem? (i := 44) rfl)) (hw _ (List.mem_of_getElem? (i := 43) rfl)) (nfs (z := (⟨"java/lang/String", "isLatin1", "()Z"⟩ : MethodName)) (hw _ (List.mem_of_getElem? (i := 44) rfl))) (by decide) rfl (lenOf pd_2829Z rfl) rfl (Nat.le_of_eq rfl) d7_1 rfl (argsL := []) (rest := []) (W := 0) (q := 4)) (n_isLatin1_0 l Z a0 hw hEL a1 zc rv h0 n0 PE PC PX PO) (hw _ (List.mem_of_getElem? (i := 45) rfl)) (hw _ (List.mem_of_getElem? (i := 7) rfl)) (by decide) (by decide) (by decide) (by decide) ?_
    intro v21 h21 hz21 hQ21
    obtain ⟨rfl, rfl⟩ := hQ21
    refine gs (mkF m 7 _ []) (fun T A t k => XS.ifNo A B.x rfl (B.d d7_4) rfl ((if0 _ _).trans (feq (by decide : ¬ ((1 : Int32) = (0 : Int32)))).1) k) ?_
    refine gs (mkF m 8 _ [(.ref a1)]) (fun T A t k => XS.aloadN A B.x rfl (B.d d7_7) rfl rfl k) ?_
    refine g_getF B (hw _ (List.mem_of_getElem? (i := 25) rfl)) Via.refl PV d7_8 (q := 11) rfl ?_
    refine gs (mkF m 12 _ [(.int (46 : Int32)), (.ref t)]) (fun T A t k => XS.iloadN A B.x rfl (B.d d7_11) rfl k) ?_
    refine gs (mkF m 13 _ [(.int (0 : Int32)), (.int (46 : Int32)), (.ref t)]) (fun T A t k => XS.iloadN A B.x rfl (B.d d7_12) rfl k) ?_
    refine gs (mkF m 14 _ [(.ref a1), (.int (0 : Int32)), (.int (46 : Int32)), (.ref t)]) (fun T A t k => XS.aloadN A B.x rfl (B.d d7_13) rfl rfl k) ?_
    refine g_metN (c_virt B PE (hw _ (List.mem_of_getElem? (i := 47) rfl)) (hw _ (List.mem_of_getElem? (i := 48) rfl)) (hw _ (List.mem_of_getElem? (i := 50) rfl)) (hw _ (List.mem_of_getElem? (i := 49) rfl)) (nfs (z := (⟨"java/lang/String", "length", "()I"⟩ : MethodName)) (hw _ (List.mem_of_getElem? (i := 50) rfl))) (by decide) rfl (lenOf pd_2829I rfl) rfl (Nat.le_of_eq rfl) d7_14 rfl (argsL := []) (rest := [(.int (0 : Int32)), (.int (46 : Int32)), (.ref t)]) (W := 3) (q := 17)) (n_length_0_0 l Z a0 hw hEL a1 zc rv t kb  h0 n0 PE PC PV PA PX PO) (hw _ (List.mem_of_getElem? (i := 51) rfl)) (hw _ (List.mem_of_getElem? (i := 7) rfl)) (by decide) (by decide) (by decide) (by decide) ?_
    intro v22 h22 hz22 hQ22
    obtain ⟨rfl, rfl⟩ := hQ22
    refine g_metN (c_static B (hw _ (List.mem_of_getElem? (i := 57) rfl)) (hw _ (List.mem_of_getElem? (i := 58) rfl)) (hw _ (List.mem_of_getElem? (i := 59) rfl)) (hw _ (List.mem_of_getElem? (i := 60) rfl)) (by decide) rfl (lenOf pd_285bBIII29I rfl) rfl (Nat.le_of_eq rfl) d7_17 rfl (argsL := [(.ref t), (.int (46 : Int32)), (.int (0 : Int32)), (.int (0 : Int32))]) (rest := []) (W := 0) (q := 20)) (n_l_indexOf_46_0 l Z a0 hw hEL t zc rv kb  h0 n0 PA   PX PO) (hw _ (List.mem_of_getElem? (i := 60) rfl)) (hw _ (List.mem_of_getElem? (i := 59) rfl)) (by decide) (by decide) (by decide) (by decide) ?_
    intro v23 h23 hz23 hQ23
    obtain ⟨rfl, rfl⟩ := hQ23
    refine gs (mkF m 36 _ [(.int (-1 : Int32))]) (fun T A t k => XS.goto A B.x rfl (pc0 := 20) (pc' := 36) rfl (B.d d7_20) (by decide) (by decide) k) ?_
    exact g_retI B d7_36 (by decide) (by decide) ⟨rfl, rfl⟩
  · obtain ⟨c, hc, -⟩ := hwd; cases hc
theorem d6_3 : decode jdk_42_method_79_code 3 = .ok (.invokevirtual 633, 3) := by decide +kernel
theorem d6_6 : decode jdk_42_method_79_code 6 = .ok (.ireturn, 1) := by decide +kernel
set_option maxRecDepth 65536 in
set_option maxHeartbeats 40000000 in
theorem n_idx1_46_0 (l : Launch) (Z : State) (a0 : Array Value) (hw : ∀ d ∈ tables_1, d.before a0 Z = true) (hEL : EW Z a0 []) (a1 : Addr) (zc : Int32) (rv : Value) (t : Addr)  (h0 : Heap) (n0 : Nat) (PS : Str Z h0 a1 t ([] : List Int32)) (PX : Sts Z zc rv) (PO : Old Z n0 h0) :
    Met false Z [] l (⟨"java/lang/String", "indexOf", "(I)I"⟩ : MethodName) jdk_42_method_79_code 2 (some .int) ({ frames := 3, cells := 0, slots := 0, locals := 42 } : Room) #[(.ref a1), (.int (46 : Int32))] h0 [] n0 (fun v h => v = some (.int (-1 : Int32)) ∧ h0 = h) := by
  refine Met.of (a0 := a0) (Ls := #[.val (.ref a1), .val (.int (46 : Int32))]) (fun z => rfl) (plainFor_of_name pn_java_lang_String) hEL (fun m => by first | (simp [entryFrame, mkF, argsToLocals, Value.category]; done) | rfl) ?_
  intro p e s m below meth c B hSf
  obtain ⟨SC, hzc, SA, SH, SL, SF, rf⟩ := id PX
  refine gs (mkF m 1 _ [(.ref a1)]) (fun T A t k => XS.aloadN A B.x rfl (B.d d6_0) rfl rfl k) ?_
  refine gs (mkF m 2 _ [(.int (46 : Int32)), (.ref a1)]) (fun T A t k => XS.iloadN A B.x rfl (B.d d6_1) rfl k) ?_
  refine gs (mkF m 3 _ [(.int (0 : Int32)), (.int (46 : Int32)), (.ref a1)]) (fun T A t k => XS.iconst A B.x rfl (B.d d6_2) k) ?_
  refine g_metN (c_virt B PS.exa (hw _ (List.mem_of_getElem? (i := 36) rfl)) (hw _ (List.mem_of_getElem? (i := 37) rfl)) (hw _ (List.mem_of_getElem? (i := 39) rfl)) (hw _ (List.mem_of_getElem? (i := 38) rfl)) (nfs (z := (⟨"java/lang/String", "indexOf", "(II)I"⟩ : MethodName)) (hw _ (List.mem_of_getElem? (i := 39) rfl))) (by decide) rfl (lenOf pd_28II29I rfl) rfl (Nat.le_of_eq rfl) d6_3 rfl (argsL := [(.int (46 : Int32)), (.int (0 : Int32))]) (rest := []) (W := 0) (q := 6)) (n_idx2_46_0 l Z a0 hw hEL a1 zc rv t  h0 n0 PS PX PO) (hw _ (List.mem_of_getElem? (i := 40) rfl)) (hw _ (List.mem_of_getElem? (i := 7) rfl)) (by decide) (by decide) (by decide) (by decide) ?_
  intro v21 h21 hz21 hQ21
  obtain ⟨rfl, rfl⟩ := hQ21
  exact g_retI B d6_6 (by decide) (by decide) ⟨rfl, rfl⟩
theorem pd_28I29I : parseMethodDescriptor "(I)I" = some ⟨[.int], some .int⟩ := by decide +kernel
theorem d5_3 : decode prog_11_method_7_code 3 = .ok (.invokevirtual 18, 3) := by decide +kernel
theorem d5_6 : decode prog_11_method_7_code 6 = .ok (.ifCond .ge 14, 3) := by decide +kernel
theorem d5_9 : decode prog_11_method_7_code 9 = .ok (.aload_n 0, 1) := by decide +kernel
theorem d15_0 : decode prog_11_method_5_code 0 = .ok (.aload_n 0, 1) := by decide +kernel
theorem d15_1 : decode prog_11_method_5_code 1 = .ok (.bipush 64, 2) := by decide +kernel
set_option maxRecDepth 65536 in
set_option maxHeartbeats 40000000 in
theorem n_ce_64 (l : Launch) (Z : State) (a0 : Array Value) (hw : ∀ d ∈ tables_1, d.before a0 Z = true) (hEL : EW Z a0 [])   (h0 : Heap) (n0 : Nat)  :
    Met false Z [] l (⟨"java/lang/StringLatin1", "canEncode", "(I)Z"⟩ : MethodName) jdk_43_method_4_code 1 (some .boolean) ({ frames := 0, cells := 0, slots := 0, locals := 0 } : Room) #[(.int (64 : Int32))] h0 [] n0 (fun v h => v = some (.int (1 : Int32)) ∧ h0 = h) := by
  refine Met.of (a0 := a0) (Ls := #[.val (.int (64 : Int32))]) (fun z => rfl) (plainFor_of_name pn_java_lang_StringLatin1) hEL (fun m => by first | (simp [entryFrame, mkF, argsToLocals, Value.category]; done) | rfl) ?_
  intro p e s m below meth c B hSf
  refine gs (mkF m 1 _ [(.int (64 : Int32))]) (fun T A t k => XS.iloadN A B.x rfl (B.d d12_0) rfl k) ?_
  refine gs (mkF m 4 _ []) (fun T A t k => XS.ifNo A B.x rfl (B.d d12_1) rfl ((if0 _ _).trans (flt (by decide : ¬ ((64 : Int32) < (0 : Int32)))).1) k) ?_
  refine gs (mkF m 5 _ [(.int (64 : Int32))]) (fun T A t k => XS.iloadN A B.x rfl (B.d d12_4) rfl k) ?_
  refine gs (mkF m 8 _ [(.int (255 : Int32)), (.int (64 : Int32))]) (fun T A t k => XS.sipush A B.x rfl (B.d d12_5) k) ?_
  refine gs (mkF m 11 _ []) (fun T A t k => XS.icmpNo A B.x rfl (B.d d12_8) rfl (flt (by decide : ¬ ((255 : Int32) < (64 : Int32)))).2.2.1 k) ?_
  refine gs (mkF m 12 _ [(.int (1 : Int32))]) (fun T A t k => XS.iconst A B.x rfl (B.d d12_11) k) ?_
  refine gs (mkF m 16 _ [(.int (1 : Int32))]) (fun T A t k => XS.goto A B.x rfl (pc0 := 12) (pc' := 16) rfl (B.d d12_12) (by decide) (by decide) k) ?_
  exact g_retN (t := .boolean) B (by simp) d12_16 (by decide) (by decide) ⟨rfl, rfl⟩
set_option maxRecDepth 65536 in
set_option maxHeartbeats 40000000 in
theorem n_l_indexOf_64_0 (l : Launch) (Z : State) (a0 : Array Value) (hw : ∀ d ∈ tables_1, d.before a0 Z = true) (hEL : EW Z a0 []) (a1 : Addr) (zc : Int32) (rv : Value) (kb : ClassId)  (h0 : Heap) (n0 : Nat) (PA : Arv Z h0 a1 kb .byte (0 : Int32) [] (.int (0 : Int32)))   (PX : Sts Z zc rv) (PO : Old Z n0 h0) :
    Met false Z [] l (⟨"java/lang/StringLatin1", "indexOf", "([BIII)I"⟩ : MethodName) jdk_43_method_22_code 4 (some .int) ({ frames := 1, cells := 0, slots := 0, locals := 13 } : Room) #[(.ref a1), (.int (64 : Int32)), (.int (0 : Int32)), (.int (0 : Int32))] h0 [] n0 (fun v h => v = some (.int (-1 : Int32)) ∧ h0 = h) := by
  refine Met.of (a0 := a0) (Ls := #[.val (.ref a1), .val (.int (64 : Int32)), .val (.int (0 : Int32)), .val (.int (0 : Int32))]) (fun z => rfl) (plainFor_of_name pn_java_lang_StringLatin1) hEL (fun m => by first | (simp [entryFrame, mkF, argsToLocals, Value.category]; done) | rfl) ?_
  intro p e s m below meth c B hSf
  obtain ⟨SC, hzc, SA, SH, SL, SF, rf⟩ := id PX
  refine gs (mkF m 1 _ [(.int (64 : Int32))]) (fun T A t k => XS.iloadN A B.x rfl (B.d d11_0) rfl k) ?_
  refine g_metN (c_static B (hw _ (List.mem_of_getElem? (i := 61) rfl)) (hw _ (List.mem_of_getElem? (i := 62) rfl)) (hw _ (List.mem_of_getElem? (i := 59) rfl)) (hw _ (List.mem_of_getElem? (i := 63) rfl)) (by decide) rfl (lenOf pd_28I29Z rfl) rfl (Nat.le_of_eq rfl) d11_1 rfl (argsL := [(.int (64 : Int32))]) (rest := []) (W := 0) (q := 4)) (n_ce_64 l Z a0 hw hEL  h0 n0) (hw _ (List.mem_of_getElem? (i := 63) rfl)) (hw _ (List.mem_of_getElem? (i := 59) rfl)) (by decide) (by decide) (by decide) (by decide) ?_
  intro v21 h21 hz21 hQ21
  obtain ⟨rfl, rfl⟩ := hQ21
  refine gs (mkF m 9 _ []) (fun T A t k => XS.ifYes A B.x rfl (pc0 := 4) (pc' := 9) rfl (B.d d11_4) rfl ((if0 _ _).trans (feq (by decide : ¬ ((1 : Int32) = (0 : Int32)))).2) (by decide) (by decide) k) ?_
  refine gs (mkF m 10 _ [(.int (0 : Int32))]) (fun T A t k => XS.iloadN A B.x rfl (B.d d11_9) rfl k) ?_
  refine gs (mkF m 11 _ [(.int (0 : Int32)), (.int (0 : Int32))]) (fun T A t k => XS.iconst A B.x rfl (B.d d11_10) k) ?_
  refine g_metN (c_static B (hw _ (List.mem_of_getElem? (i := 64) rfl)) (hw _ (List.mem_of_getElem? (i := 65) rfl)) (hw _ (List.mem_of_getElem? (i := 66) rfl)) (hw _ (List.mem_of_getElem? (i := 67) rfl)) (by decide) rfl (lenOf pd_28II29I rfl) rfl (Nat.le_of_eq rfl) d11_11 rfl (argsL := [(.int (0 : Int32)), (.int (0 : Int32))]) (rest := []) (W := 0) (q := 14)) (n_max_0_0 l Z a0 hw hEL  h0 n0) (hw _ (List.mem_of_getElem? (i := 67) rfl)) (hw _ (List.mem_of_getElem? (i := 66) rfl)) (by decide) (by decide) (by decide) (by decide) ?_
  intro v22 h22 hz22 hQ22
  obtain ⟨rfl, rfl⟩ := hQ22
  refine gs (mkF m 15 #[.val (.ref a1), .val (.int (64 : Int32)), .val (.int (0 : Int32)), .val (.int (0 : Int32))] []) (fun T A t k => XS.istoreN A B.x rfl (B.d d11_14) rfl (l' := #[.val (.ref a1), .val (.int (64 : Int32)), .val (.int (0 : Int32)), .val (.int (0 : Int32))]) rfl k) ?_
  refine gs (mkF m 16 _ [(.int (0 : Int32))]) (fun T A t k => XS.iloadN A B.x rfl (B.d d11_15) rfl k) ?_
  refine gs (mkF m 17 _ [(.ref a1), (.int (0 : Int32))]) (fun T A t k => XS.aloadN A B.x rfl (B.d d11_16) rfl rfl k) ?_
  refine g_len B PA d11_17 (q := 18) rfl ?_
  refine g_metN (c_static B (hw _ (List.mem_of_getElem? (i := 68) rfl)) (hw _ (List.mem_of_getElem? (i := 69) rfl)) (hw _ (List.mem_of_getElem? (i := 66) rfl)) (hw _ (List.mem_of_getElem? (i := 70) rfl)) (by decide) rfl (lenOf pd_28II29I rfl) rfl (Nat.le_of_eq rfl) d11_18 rfl (argsL := [(.int (0 : Int32)), (.int (0 : Int32))]) (rest := []) (W := 0) (q := 21)) (n_min_0_0 l Z a0 hw hEL  h0 n0) (hw _ (List.mem_of_getElem? (i := 70) rfl)) (hw _ (List.mem_of_getElem? (i := 66) rfl)) (by decide) (by decide) (by decide) (by decide) ?_
  intro v23 h23 hz23 hQ23
  obtain ⟨rfl, rfl⟩ := hQ23
  refine gs (mkF m 22 #[.val (.ref a1), .val (.int (64 : Int32)), .val (.int (0 : Int32)), .val (.int (0 : Int32))] []) (fun T A t k => XS.istoreN A B.x rfl (B.d d11_21) rfl (l' := #[.val (.ref a1), .val (.int (64 : Int32)), .val (.int (0 : Int32)), .val (.int (0 : Int32))]) rfl k) ?_
  refine gs (mkF m 23 _ [(.int (0 : Int32))]) (fun T A t k => XS.iloadN A B.x rfl (B.d d11_22) rfl k) ?_
  refine gs (mkF m 24 _ [(.int (0 : Int32)), (.int (0 : Int32))]) (fun T A t k => XS.iloadN A B.x rfl (B.d d11_23) rfl k) ?_
  refine gs (mkF m 27 _ []) (fun T A t k => XS.icmpNo A B.x rfl (B.d d11_24) rfl (flt (by decide : ¬ ((0 : Int32) < (0 : Int32)))).1 k) ?_
  refine gs (mkF m 28 _ [(.int (-1 : Int32))]) (fun T A t k => XS.iconst A B.x rfl (B.d d11_27) k) ?_
  exact g_retI B d11_28 (by decide) (by decide) ⟨rfl, rfl⟩
set_option maxRecDepth 65536 in
set_option maxHeartbeats 40000000 in
theorem n_idx2_64_0 (l : Launch) (Z : State) (a0 : Array Value) (hw : ∀ d ∈ tables_1, d.before a0 Z = true) (hEL : EW Z a0 []) (a1 : Addr) (zc : Int32) (rv : Value) (t : Addr)  (h0 : Heap) (n0 : Nat) (PS : Str Z h0 a1 t ([] : List Int32)) (PX : Sts Z zc rv) (PO : Old Z n0 h0) :
    Met false Z [] l (⟨"java/lang/String", "indexOf", "(II)I"⟩ : MethodName) jdk_42_method_80_code 3 (some .int) ({ frames := 2, cells := 0, slots := 0, locals := 28 } : Room) #[(.ref a1), (.int (64 : Int32)), (.int (0 : Int32))] h0 [] n0 (fun v h => v = some (.int (-1 : Int32)) ∧ h0 = h) := by
  refine Met.of (a0 := a0) (Ls := #[.val (.ref a1), .val (.int (64 : Int32)), .val (.int (0 : Int32))]) (fun z => rfl) (plainFor_of_name pn_java_lang_String) hEL (fun m => by first | (simp [entryFrame, mkF, argsToLocals, Value.category]; done) | rfl) ?_
  intro p e s m below meth c B hSf
  obtain ⟨SC, hzc, SA, SH, SL, SF, rf⟩ := id PX
  obtain ⟨PE, PV, cd, N2, vs, kb, PC, PA0, hcod, hb, -⟩ := PS
  rcases hcod with ⟨rfl, rfl, rfl, hlat⟩ | ⟨rfl, rfl, rfl, hwd⟩
  · have PA : Arv Z h0 t kb .byte (0 : Int32) [] (.int (0 : Int32)) := PA0
    refine gs (mkF m 1 _ [(.ref a1)]) (fun T A t k => XS.aloadN A B.x rfl (B.d d7_0) rfl rfl k) ?_
    refine g_metN (c_virt B PE (hw _ (List.mem_of_getElem? (i := 41) rfl)) (hw _ (List.mem_of_getElem? (i := 42) rfl)) (hw _ (List.mem_of_getElem? (i := 44) rfl)) (hw _ (List.mem_of_getElem? (i := 43) rfl)) (nfs (z := (⟨"java/lang/String", "isLatin1", "()Z"⟩ : MethodName)) (hw _ (List.mem_of_getElem? (i := 44) rfl))) (by decide) rfl (lenOf pd_2829Z rfl) rfl (Nat.le_of_eq rfl) d7_1 rfl (argsL := []) (rest := []) (W := 0) (q := 4)) (n_isLatin1_0 l Z a0 hw hEL a1 zc rv h0 n0 PE PC PX PO) (hw _ (List.mem_of_getElem? (i := 45) rfl)) (hw _ (List.mem_of_getElem? (i := 7) rfl)) (by decide) (by decide) (by decide) (by decide) ?_
    intro v21 h21 hz21 hQ21
    obtain ⟨rfl, rfl⟩ := hQ21
    refine gs (mkF m 7 _ []) (fun T A t k => XS.ifNo A B.x rfl (B.d d7_4) rfl ((if0 _ _).trans (feq (by decide : ¬ ((1 : Int32) = (0 : Int32)))).1) k) ?_
    refine gs (mkF m 8 _ [(.ref a1)]) (fun T A t k => XS.aloadN A B.x rfl (B.d d7_7) rfl rfl k) ?_
    refine g_getF B (hw _ (List.mem_of_getElem? (i := 25) rfl)) Via.refl PV d7_8 (q := 11) rfl ?_
    refine gs (mkF m 12 _ [(.int (64 : Int32)), (.ref t)]) (fun T A t k => XS.iloadN A B.x rfl (B.d d7_11) rfl k) ?_
    refine gs (mkF m 13 _ [(.int (0 : Int32)), (.int (64 : Int32)), (.ref t)]) (fun T A t k => XS.iloadN A B.x rfl (B.d d7_12) rfl k) ?_
    refine gs (mkF m 14 _ [(.ref a1), (.int (0 : Int32)), (.int (64 : Int32)), (.ref t)]) (fun T A t k => XS.aloadN A B.x rfl (B.d d7_13) rfl rfl k) ?_
    refine g_metN (c_virt B PE (hw _ (List.mem_of_getElem? (i := 47) rfl)) (hw _ (List.mem_of_getElem? (i := 48) rfl)) (hw _ (List.mem_of_getElem? (i := 50) rfl)) (hw _ (List.mem_of_getElem? (i := 49) rfl)) (nfs (z := (⟨"java/lang/String", "length", "()I"⟩ : MethodName)) (hw _ (List.mem_of_getElem? (i := 50) rfl))) (by decide) rfl (lenOf pd_2829I rfl) rfl (Nat.le_of_eq rfl) d7_14 rfl (argsL := []) (rest := [(.int (0 : Int32)), (.int (64 : Int32)), (.ref t)]) (W := 3) (q := 17)) (n_length_0_0 l Z a0 hw hEL a1 zc rv t kb  h0 n0 PE PC PV PA PX PO) (hw _ (List.mem_of_getElem? (i := 51) rfl)) (hw _ (List.mem_of_getElem? (i := 7) rfl)) (by decide) (by decide) (by decide) (by decide) ?_
    intro v22 h22 hz22 hQ22
    obtain ⟨rfl, rfl⟩ := hQ22
    refine g_metN (c_static B (hw _ (List.mem_of_getElem? (i := 57) rfl)) (hw _ (List.mem_of_getElem? (i := 58) rfl)) (hw _ (List.mem_of_getElem? (i := 59) rfl)) (hw _ (List.mem_of_getElem? (i := 60) rfl)) (by decide) rfl (lenOf pd_285bBIII29I rfl) rfl (Nat.le_of_eq rfl) d7_17 rfl (argsL := [(.ref t), (.int (64 : Int32)), (.int (0 : Int32)), (.int (0 : Int32))]) (rest := []) (W := 0) (q := 20)) (n_l_indexOf_64_0 l Z a0 hw hEL t zc rv kb  h0 n0 PA   PX PO) (hw _ (List.mem_of_getElem? (i := 60) rfl)) (hw _ (List.mem_of_getElem? (i := 59) rfl)) (by decide) (by decide) (by decide) (by decide) ?_
    intro v23 h23 hz23 hQ23
    obtain ⟨rfl, rfl⟩ := hQ23
    refine gs (mkF m 36 _ [(.int (-1 : Int32))]) (fun T A t k => XS.goto A B.x rfl (pc0 := 20) (pc' := 36) rfl (B.d d7_20) (by decide) (by decide) k) ?_
    exact g_retI B d7_36 (by decide) (by decide) ⟨rfl, rfl⟩
  · obtain ⟨c, hc, -⟩ := hwd; cases hc
set_option maxRecDepth 65536 in
set_option maxHeartbeats 40000000 in
theorem n_idx1_64_0 (l : Launch) (Z : State) (a0 : Array Value) (hw : ∀ d ∈ tables_1, d.before a0 Z = true) (hEL : EW Z a0 []) (a1 : Addr) (zc : Int32) (rv : Value) (t : Addr)  (h0 : Heap) (n0 : Nat) (PS : Str Z h0 a1 t ([] : List Int32)) (PX : Sts Z zc rv) (PO : Old Z n0 h0) :
    Met false Z [] l (⟨"java/lang/String", "indexOf", "(I)I"⟩ : MethodName) jdk_42_method_79_code 2 (some .int) ({ frames := 3, cells := 0, slots := 0, locals := 42 } : Room) #[(.ref a1), (.int (64 : Int32))] h0 [] n0 (fun v h => v = some (.int (-1 : Int32)) ∧ h0 = h) := by
  refine Met.of (a0 := a0) (Ls := #[.val (.ref a1), .val (.int (64 : Int32))]) (fun z => rfl) (plainFor_of_name pn_java_lang_String) hEL (fun m => by first | (simp [entryFrame, mkF, argsToLocals, Value.category]; done) | rfl) ?_
  intro p e s m below meth c B hSf
  obtain ⟨SC, hzc, SA, SH, SL, SF, rf⟩ := id PX
  refine gs (mkF m 1 _ [(.ref a1)]) (fun T A t k => XS.aloadN A B.x rfl (B.d d6_0) rfl rfl k) ?_
  refine gs (mkF m 2 _ [(.int (64 : Int32)), (.ref a1)]) (fun T A t k => XS.iloadN A B.x rfl (B.d d6_1) rfl k) ?_
  refine gs (mkF m 3 _ [(.int (0 : Int32)), (.int (64 : Int32)), (.ref a1)]) (fun T A t k => XS.iconst A B.x rfl (B.d d6_2) k) ?_
  refine g_metN (c_virt B PS.exa (hw _ (List.mem_of_getElem? (i := 36) rfl)) (hw _ (List.mem_of_getElem? (i := 37) rfl)) (hw _ (List.mem_of_getElem? (i := 39) rfl)) (hw _ (List.mem_of_getElem? (i := 38) rfl)) (nfs (z := (⟨"java/lang/String", "indexOf", "(II)I"⟩ : MethodName)) (hw _ (List.mem_of_getElem? (i := 39) rfl))) (by decide) rfl (lenOf pd_28II29I rfl) rfl (Nat.le_of_eq rfl) d6_3 rfl (argsL := [(.int (64 : Int32)), (.int (0 : Int32))]) (rest := []) (W := 0) (q := 6)) (n_idx2_64_0 l Z a0 hw hEL a1 zc rv t  h0 n0 PS PX PO) (hw _ (List.mem_of_getElem? (i := 40) rfl)) (hw _ (List.mem_of_getElem? (i := 7) rfl)) (by decide) (by decide) (by decide) (by decide) ?_
  intro v21 h21 hz21 hQ21
  obtain ⟨rfl, rfl⟩ := hQ21
  exact g_retI B d6_6 (by decide) (by decide) ⟨rfl, rfl⟩
theorem d15_3 : decode prog_11_method_5_code 3 = .ok (.invokevirtual 18, 3) := by decide +kernel
theorem d15_6 : decode prog_11_method_5_code 6 = .ok (.ifCond .lt 7, 3) := by decide +kernel
theorem d15_13 : decode prog_11_method_5_code 13 = .ok (.iconst 0, 1) := by decide +kernel
theorem d15_14 : decode prog_11_method_5_code 14 = .ok (.ireturn, 1) := by decide +kernel
set_option maxRecDepth 65536 in
set_option maxHeartbeats 40000000 in
theorem n_isPrincipal_0 (l : Launch) (Z : State) (a0 : Array Value) (hw : ∀ d ∈ tables_1, d.before a0 Z = true) (hEL : EW Z a0 []) (a1 : Addr) (zc : Int32) (rv : Value) (t : Addr)  (h0 : Heap) (n0 : Nat) (PS : Str Z h0 a1 t ([] : List Int32)) (PX : Sts Z zc rv) (PO : Old Z n0 h0) :
    Met false Z [] l (⟨"com/example/multi_domain_access/multidomainaccess/Names", "isPrincipal", "(Ljava/lang/String;)Z"⟩ : MethodName) prog_11_method_5_code 1 (some .boolean) ({ frames := 4, cells := 0, slots := 0, locals := 55 } : Room) #[(.ref a1)] h0 [] n0 (fun v h => v = some (.int (prin ([] : List Int32))) ∧ h0 = h) := by
  refine Met.of (a0 := a0) (Ls := #[.val (.ref a1)]) (fun z => rfl) (plainFor_of_name pn_com_example_multi_domain_access_multidomainaccess_Names) hEL (fun m => by first | (simp [entryFrame, mkF, argsToLocals, Value.category]; done) | rfl) ?_
  intro p e s m below meth c B hSf
  obtain ⟨SC, hzc, SA, SH, SL, SF, rf⟩ := id PX
  refine gs (mkF m 1 _ [(.ref a1)]) (fun T A t k => XS.aloadN A B.x rfl (B.d d15_0) rfl rfl k) ?_
  refine gs (mkF m 3 _ [(.int (64 : Int32)), (.ref a1)]) (fun T A t k => XS.bipush A B.x rfl (B.d d15_1) k) ?_
  refine g_metN (c_virt B PS.exa (hw _ (List.mem_of_getElem? (i := 31) rfl)) (hw _ (List.mem_of_getElem? (i := 32) rfl)) (hw _ (List.mem_of_getElem? (i := 34) rfl)) (hw _ (List.mem_of_getElem? (i := 33) rfl)) (nfs (z := (⟨"java/lang/String", "indexOf", "(I)I"⟩ : MethodName)) (hw _ (List.mem_of_getElem? (i := 34) rfl))) (by decide) rfl (lenOf pd_28I29I rfl) rfl (Nat.le_of_eq rfl) d15_3 rfl (argsL := [(.int (64 : Int32))]) (rest := []) (W := 0) (q := 6)) (n_idx1_64_0 l Z a0 hw hEL a1 zc rv t  h0 n0 PS PX PO) (hw _ (List.mem_of_getElem? (i := 35) rfl)) (hw _ (List.mem_of_getElem? (i := 7) rfl)) (by decide) (by decide) (by decide) (by decide) ?_
  intro v21 h21 hz21 hQ21
  obtain ⟨rfl, rfl⟩ := hQ21
  refine gs (mkF m 13 _ []) (fun T A t k => XS.ifYes A B.x rfl (pc0 := 6) (pc' := 13) rfl (B.d d15_6) rfl ((if0 _ _).trans (tlt (by decide : (-1 : Int32) < (0 : Int32))).1) (by decide) (by decide) k) ?_
  refine gs (mkF m 14 _ [(.int (0 : Int32))]) (fun T A t k => XS.iconst A B.x rfl (B.d d15_13) k) ?_
  exact g_retN (t := .boolean) B (by simp) d15_14 (by decide) (by decide) ⟨by show some (Value.int (0 : Int32)) = _; simp [prin], rfl⟩
theorem pd_28Ljava2flang2fString3b29Z : parseMethodDescriptor "(Ljava/lang/String;)Z" = some ⟨[(.object "java/lang/String")], some .boolean⟩ := by decide +kernel
theorem d5_10 : decode prog_11_method_7_code 10 = .ok (.invokestatic 51, 3) := by decide +kernel
theorem d5_13 : decode prog_11_method_7_code 13 = .ok (.ifCond .ne 7, 3) := by decide +kernel
theorem d5_16 : decode prog_11_method_7_code 16 = .ok (.iconst 1, 1) := by decide +kernel
theorem d5_17 : decode prog_11_method_7_code 17 = .ok (.goto 4, 3) := by decide +kernel
theorem d5_21 : decode prog_11_method_7_code 21 = .ok (.ireturn, 1) := by decide +kernel
set_option maxRecDepth 65536 in
set_option maxHeartbeats 40000000 in
theorem n_isLocalName_0 (l : Launch) (Z : State) (a0 : Array Value) (hw : ∀ d ∈ tables_1, d.before a0 Z = true) (hEL : EW Z a0 []) (a1 : Addr) (zc : Int32) (rv : Value) (t : Addr)  (h0 : Heap) (n0 : Nat) (PS : Str Z h0 a1 t ([] : List Int32)) (PX : Sts Z zc rv) (PO : Old Z n0 h0) :
    Met false Z [] l (⟨"com/example/multi_domain_access/multidomainaccess/Names", "isLocalName", "(Ljava/lang/String;)Z"⟩ : MethodName) prog_11_method_7_code 1 (some .boolean) ({ frames := 5, cells := 0, slots := 0, locals := 67 } : Room) #[(.ref a1)] h0 [] n0 (fun v h => v = some (.int (loc ([] : List Int32))) ∧ h0 = h) := by
  refine Met.of (a0 := a0) (Ls := #[.val (.ref a1)]) (fun z => rfl) (plainFor_of_name pn_com_example_multi_domain_access_multidomainaccess_Names) hEL (fun m => by first | (simp [entryFrame, mkF, argsToLocals, Value.category]; done) | rfl) ?_
  intro p e s m below meth c B hSf
  obtain ⟨SC, hzc, SA, SH, SL, SF, rf⟩ := id PX
  refine gs (mkF m 1 _ [(.ref a1)]) (fun T A t k => XS.aloadN A B.x rfl (B.d d5_0) rfl rfl k) ?_
  refine gs (mkF m 3 _ [(.int (46 : Int32)), (.ref a1)]) (fun T A t k => XS.bipush A B.x rfl (B.d d5_1) k) ?_
  refine g_metN (c_virt B PS.exa (hw _ (List.mem_of_getElem? (i := 31) rfl)) (hw _ (List.mem_of_getElem? (i := 32) rfl)) (hw _ (List.mem_of_getElem? (i := 34) rfl)) (hw _ (List.mem_of_getElem? (i := 33) rfl)) (nfs (z := (⟨"java/lang/String", "indexOf", "(I)I"⟩ : MethodName)) (hw _ (List.mem_of_getElem? (i := 34) rfl))) (by decide) rfl (lenOf pd_28I29I rfl) rfl (Nat.le_of_eq rfl) d5_3 rfl (argsL := [(.int (46 : Int32))]) (rest := []) (W := 0) (q := 6)) (n_idx1_46_0 l Z a0 hw hEL a1 zc rv t  h0 n0 PS PX PO) (hw _ (List.mem_of_getElem? (i := 35) rfl)) (hw _ (List.mem_of_getElem? (i := 7) rfl)) (by decide) (by decide) (by decide) (by decide) ?_
  intro v21 h21 hz21 hQ21
  obtain ⟨rfl, rfl⟩ := hQ21
  refine gs (mkF m 9 _ []) (fun T A t k => XS.ifNo A B.x rfl (B.d d5_6) rfl ((if0 _ _).trans (tlt (by decide : (-1 : Int32) < (0 : Int32))).2.1) k) ?_
  refine gs (mkF m 10 _ [(.ref a1)]) (fun T A t k => XS.aloadN A B.x rfl (B.d d5_9) rfl rfl k) ?_
  refine g_metN (c_static B (hw _ (List.mem_of_getElem? (i := 71) rfl)) (hw _ (List.mem_of_getElem? (i := 72) rfl)) (hw _ (List.mem_of_getElem? (i := 29) rfl)) (hw _ (List.mem_of_getElem? (i := 73) rfl)) (by decide) rfl (lenOf pd_28Ljava2flang2fString3b29Z rfl) rfl (Nat.le_of_eq rfl) d5_10 rfl (argsL := [(.ref a1)]) (rest := []) (W := 0) (q := 13)) (n_isPrincipal_0 l Z a0 hw hEL a1 zc rv t  h0 n0 PS PX PO) (hw _ (List.mem_of_getElem? (i := 73) rfl)) (hw _ (List.mem_of_getElem? (i := 29) rfl)) (by decide) (by decide) (by decide) (by decide) ?_
  intro v22 h22 hz22 hQ22
  obtain ⟨rfl, rfl⟩ := hQ22
  rw [show prin ([] : List Int32) = (0 : Int32) by simp [prin]]
  refine gs (mkF m 16 _ []) (fun T A t k => XS.ifNo A B.x rfl (B.d d5_13) rfl ((if0 _ _).trans (teq (by decide : (0 : Int32) = (0 : Int32))).2) k) ?_
  refine gs (mkF m 17 _ [(.int (1 : Int32))]) (fun T A t k => XS.iconst A B.x rfl (B.d d5_16) k) ?_
  refine gs (mkF m 21 _ [(.int (1 : Int32))]) (fun T A t k => XS.goto A B.x rfl (pc0 := 17) (pc' := 21) rfl (B.d d5_17) (by decide) (by decide) k) ?_
  exact g_retN (t := .boolean) B (by simp) d5_21 (by decide) (by decide) ⟨by show some (Value.int (1 : Int32)) = _; simp [loc], rfl⟩
theorem d3_27 : decode jdk_42_method_149_code 27 = .ok (.getstatic 38, 3) := by decide +kernel
theorem d3_30 : decode jdk_42_method_149_code 30 = .ok (.ifCond .eq 28, 3) := by decide +kernel
theorem d3_33 : decode jdk_42_method_149_code 33 = .ok (.aload_n 1, 1) := by decide +kernel
theorem d3_34 : decode jdk_42_method_149_code 34 = .ok (.iload_n 2, 1) := by decide +kernel
theorem d3_35 : decode jdk_42_method_149_code 35 = .ok (.iload_n 3, 1) := by decide +kernel
theorem pn_java_lang_StringUTF16 : plainName "java/lang/StringUTF16" = true := by first | (simp [plainName, overriddenIn]; done) | decide +kernel
theorem d16_0 : decode jdk_52_method_16_code 0 = .ok (.iload_n 2, 1) := by decide +kernel
theorem d16_1 : decode jdk_52_method_16_code 1 = .ok (.newarray .byte, 2) := by decide +kernel
theorem d16_3 : decode jdk_52_method_16_code 3 = .ok (.astore_n 3, 1) := by decide +kernel
theorem d16_4 : decode jdk_52_method_16_code 4 = .ok (.aload_n 0, 1) := by decide +kernel
theorem d16_5 : decode jdk_52_method_16_code 5 = .ok (.iload_n 1, 1) := by decide +kernel
theorem d16_6 : decode jdk_52_method_16_code 6 = .ok (.aload_n 3, 1) := by decide +kernel
theorem d16_7 : decode jdk_52_method_16_code 7 = .ok (.iconst 0, 1) := by decide +kernel
theorem d16_8 : decode jdk_52_method_16_code 8 = .ok (.iload_n 2, 1) := by decide +kernel
theorem d17_0 : decode jdk_52_method_21_code 0 = .ok (.iconst 0, 1) := by decide +kernel
theorem d17_1 : decode jdk_52_method_21_code 1 = .ok (.istore 5, 2) := by decide +kernel
theorem d17_3 : decode jdk_52_method_21_code 3 = .ok (.iload 5, 2) := by decide +kernel
theorem d17_5 : decode jdk_52_method_21_code 5 = .ok (.iload 4, 2) := by decide +kernel
theorem d17_7 : decode jdk_52_method_21_code 7 = .ok (.if_icmp .ge 37, 3) := by decide +kernel
theorem d17_10 : decode jdk_52_method_21_code 10 = .ok (.aload_n 0, 1) := by decide +kernel
theorem d17_11 : decode jdk_52_method_21_code 11 = .ok (.iload_n 1, 1) := by decide +kernel
theorem d17_12 : decode jdk_52_method_21_code 12 = .ok (.caload, 1) := by decide +kernel
theorem d17_13 : decode jdk_52_method_21_code 13 = .ok (.istore 6, 2) := by decide +kernel
theorem d17_15 : decode jdk_52_method_21_code 15 = .ok (.iload 6, 2) := by decide +kernel
theorem d17_17 : decode jdk_52_method_21_code 17 = .ok (.sipush 255, 3) := by decide +kernel
theorem d17_20 : decode jdk_52_method_21_code 20 = .ok (.if_icmp .le 6, 3) := by decide +kernel
theorem d17_23 : decode jdk_52_method_21_code 23 = .ok (.iload 5, 2) := by decide +kernel
theorem d17_25 : decode jdk_52_method_21_code 25 = .ok (.ireturn, 1) := by decide +kernel
set_option maxRecDepth 65536 in
set_option maxHeartbeats 40000000 in
theorem n_comp5_1_0 (l : Launch) (Z : State) (a0 : Array Value) (hw : ∀ d ∈ tables_1, d.before a0 Z = true) (hEL : EW Z a0 []) (a1 : Addr) (a2 : Addr) (kc kb : ClassId) (c0 : Int32) (h0 : Heap) (n0 : Nat) (PA : Arv Z h0 a1 kc .char (1 : Int32) [(.int c0)] (.int (0 : Int32))) (PB : Arv Z h0 a2 kb .byte (1 : Int32) [(.int (0 : Int32))] (.int (0 : Int32))) (hd : @LE.le Nat _ n0 a2) (hne : @Ne Nat a1 a2)  (hg : (255 : Int32) < c0) :
    Met false Z [] l (⟨"java/lang/StringUTF16", "compress", "([CI[BII)I"⟩ : MethodName) jdk_52_method_21_code 7 (some .int) ({ frames := 0, cells := 0, slots := 0, locals := 0 } : Room) #[(.ref a1), (.int (0 : Int32)), (.ref a2), (.int (0 : Int32)), (.int (1 : Int32))] h0 [] n0 (fun v h => v = some (.int (0 : Int32)) ∧ Keep h0 h [a2]) := by
  refine Met.of (a0 := a0) (Ls := #[.val (.ref a1), .val (.int (0 : Int32)), .val (.ref a2), .val (.int (0 : Int32)), .val (.int (1 : Int32)), .unset, .unset]) (fun z => rfl) (plainFor_of_name pn_java_lang_StringUTF16) hEL (fun m => by first | (simp [entryFrame, mkF, argsToLocals, Value.category]; done) | rfl) ?_
  intro p e s m below meth c B hSf
  refine gs (mkF m 1 _ [(.int (0 : Int32))]) (fun T A t k => XS.iconst A B.x rfl (B.d d17_0) k) ?_
  refine gs (mkF m 3 #[.val (.ref a1), .val (.int (0 : Int32)), .val (.ref a2), .val (.int (0 : Int32)), .val (.int (1 : Int32)), .val (.int (0 : Int32)), .unset] []) (fun T A t k => XS.istore A B.x rfl (B.d d17_1) rfl (l' := #[.val (.ref a1), .val (.int (0 : Int32)), .val (.ref a2), .val (.int (0 : Int32)), .val (.int (1 : Int32)), .val (.int (0 : Int32)), .unset]) rfl k) ?_
  refine gs (mkF m 5 _ [(.int (0 : Int32))]) (fun T A t k => XS.iload A B.x rfl (B.d d17_3) rfl k) ?_
  refine gs (mkF m 7 _ [(.int (1 : Int32)), (.int (0 : Int32))]) (fun T A t k => XS.iload A B.x rfl (B.d d17_5) rfl k) ?_
  refine gs (mkF m 10 _ []) (fun T A t k => XS.icmpNo A B.x rfl (B.d d17_7) rfl (tlt (by decide : (0 : Int32) < (1 : Int32))).2.1 k) ?_
  refine gs (mkF m 11 _ [(.ref a1)]) (fun T A t k => XS.aloadN A B.x rfl (B.d d17_10) rfl rfl k) ?_
  refine gs (mkF m 12 _ [(.int (0 : Int32)), (.ref a1)]) (fun T A t k => XS.iloadN A B.x rfl (B.d d17_11) rfl k) ?_
  refine g_ldC B PA ⟨by decide, by decide⟩ (v := (.int c0)) rfl d17_12 (q := 13) rfl ?_
  refine gs (mkF m 15 #[.val (.ref a1), .val (.int (0 : Int32)), .val (.ref a2), .val (.int (0 : Int32)), .val (.int (1 : Int32)), .val (.int (0 : Int32)), .val (.int c0)] []) (fun T A t k => XS.istore A B.x rfl (B.d d17_13) rfl (l' := #[.val (.ref a1), .val (.int (0 : Int32)), .val (.ref a2), .val (.int (0 : Int32)), .val (.int (1 : Int32)), .val (.int (0 : Int32)), .val (.int c0)]) rfl k) ?_
  refine gs (mkF m 17 _ [(.int c0)]) (fun T A t k => XS.iload A B.x rfl (B.d d17_15) rfl k) ?_
  refine gs (mkF m 20 _ [(.int (255 : Int32)), (.int c0)]) (fun T A t k => XS.sipush A B.x rfl (B.d d17_17) k) ?_
  refine gs (mkF m 23 _ []) (fun T A t k => XS.icmpNo A B.x rfl (B.d d17_20) rfl (tlt (hg : (255 : Int32) < c0)).2.2.2 k) ?_
  refine gs (mkF m 25 _ [(.int (0 : Int32))]) (fun T A t k => XS.iload A B.x rfl (B.d d17_23) rfl k) ?_
  exact g_retI B d17_25 (by decide) (by decide) ⟨rfl, (Keep.refl h0 [a2])⟩
theorem pd_285bCI5bBII29I : parseMethodDescriptor "([CI[BII)I" = some ⟨[(.array .char), .int, (.array .byte), .int, .int], some .int⟩ := by decide +kernel
theorem d16_9 : decode jdk_52_method_16_code 9 = .ok (.invokestatic 115, 3) := by decide +kernel
theorem d16_12 : decode jdk_52_method_16_code 12 = .ok (.istore 4, 2) := by decide +kernel
theorem d16_14 : decode jdk_52_method_16_code 14 = .ok (.iload 4, 2) := by decide +kernel
theorem d16_16 : decode jdk_52_method_16_code 16 = .ok (.iload_n 2, 1) := by decide +kernel
theorem d16_17 : decode jdk_52_method_16_code 17 = .ok (.if_icmp .eq 40, 3) := by decide +kernel
theorem d16_20 : decode jdk_52_method_16_code 20 = .ok (.aload_n 0, 1) := by decide +kernel
theorem d16_21 : decode jdk_52_method_16_code 21 = .ok (.iload_n 1, 1) := by decide +kernel
theorem d16_22 : decode jdk_52_method_16_code 22 = .ok (.iload_n 2, 1) := by decide +kernel
theorem d21_0 : decode jdk_52_method_14_code 0 = .ok (.iload_n 2, 1) := by decide +kernel
theorem d22_0 : decode jdk_52_method_2_code 0 = .ok (.iload_n 0, 1) := by decide +kernel
theorem d23_0 : decode jdk_52_method_3_code 0 = .ok (.iload_n 0, 1) := by decide +kernel
theorem d23_1 : decode jdk_52_method_3_code 1 = .ok (.ifCond .ge 11, 3) := by decide +kernel
theorem d23_12 : decode jdk_52_method_3_code 12 = .ok (.iload_n 0, 1) := by decide +kernel
theorem d23_13 : decode jdk_52_method_3_code 13 = .ok (.ldc 20, 2) := by decide +kernel
theorem d23_15 : decode jdk_52_method_3_code 15 = .ok (.if_icmp .lt 40, 3) := by decide +kernel
theorem d23_55 : decode jdk_52_method_3_code 55 = .ok (.iload_n 0, 1) := by decide +kernel
theorem d23_56 : decode jdk_52_method_3_code 56 = .ok (.iconst 1, 1) := by decide +kernel
theorem d23_57 : decode jdk_52_method_3_code 57 = .ok (.ishl, 1) := by decide +kernel
theorem d23_58 : decode jdk_52_method_3_code 58 = .ok (.ireturn, 1) := by decide +kernel
set_option maxRecDepth 65536 in
set_option maxHeartbeats 40000000 in
theorem n_nbl_1 (l : Launch) (Z : State) (a0 : Array Value) (hw : ∀ d ∈ tables_1, d.before a0 Z = true) (hEL : EW Z a0 [])   (h0 : Heap) (n0 : Nat)  :
    Met false Z [] l (⟨"java/lang/StringUTF16", "newBytesLength", "(I)I"⟩ : MethodName) jdk_52_method_3_code 1 (some .int) ({ frames := 0, cells := 0, slots := 0, locals := 0 } : Room) #[(.int (1 : Int32))] h0 [] n0 (fun v h => v = some (.int (2 : Int32)) ∧ h0 = h) := by
  refine Met.of (a0 := a0) (Ls := #[.val (.int (1 : Int32))]) (fun z => rfl) (plainFor_of_name pn_java_lang_StringUTF16) hEL (fun m => by first | (simp [entryFrame, mkF, argsToLocals, Value.category]; done) | rfl) ?_
  intro p e s m below meth c B hSf
  refine gs (mkF m 1 _ [(.int (1 : Int32))]) (fun T A t k => XS.iloadN A B.x rfl (B.d d23_0) rfl k) ?_
  refine gs (mkF m 12 _ []) (fun T A t k => XS.ifYes A B.x rfl (pc0 := 1) (pc' := 12) rfl (B.d d23_1) rfl ((if0 _ _).trans (flt (by decide : ¬ ((1 : Int32) < (0 : Int32)))).2.1) (by decide) (by decide) k) ?_
  refine gs (mkF m 13 _ [(.int (1 : Int32))]) (fun T A t k => XS.iloadN A B.x rfl (B.d d23_12) rfl k) ?_
  refine g_ldcI B (hw _ (List.mem_of_getElem? (i := 99) rfl)) d23_13 (q := 15) rfl ?_
  refine gs (mkF m 55 _ []) (fun T A t k => XS.icmpYes A B.x rfl (pc0 := 15) (pc' := 55) rfl (B.d d23_15) rfl (tlt (by decide : (1 : Int32) < (1073741823 : Int32))).1 (by decide) (by decide) k) ?_
  refine gs (mkF m 56 _ [(.int (1 : Int32))]) (fun T A t k => XS.iloadN A B.x rfl (B.d d23_55) rfl k) ?_
  refine gs (mkF m 57 _ [(.int (1 : Int32)), (.int (1 : Int32))]) (fun T A t k => XS.iconst A B.x rfl (B.d d23_56) k) ?_
  refine gs (mkF m 58 _ [(.int (2 : Int32))]) (fun T A t k => XS.ishl A B.x rfl (B.d d23_57) rfl k) ?_
  exact g_retI B d23_58 (by decide) (by decide) ⟨rfl, rfl⟩
theorem d22_1 : decode jdk_52_method_2_code 1 = .ok (.invokestatic 11, 3) := by decide +kernel
theorem d22_4 : decode jdk_52_method_2_code 4 = .ok (.newarray .byte, 2) := by decide +kernel
theorem d22_6 : decode jdk_52_method_2_code 6 = .ok (.areturn, 1) := by decide +kernel
set_option maxRecDepth 65536 in
set_option maxHeartbeats 40000000 in
theorem n_nbf_1 (l : Launch) (Z : State) (a0 : Array Value) (hw : ∀ d ∈ tables_1, d.before a0 Z = true) (hEL : EW Z a0 [])   (h0 : Heap) (n0 : Nat)  :
    Met false Z [] l (⟨"java/lang/StringUTF16", "newBytesFor", "(I)[B"⟩ : MethodName) jdk_52_method_2_code 1 (some (.array .byte)) ({ frames := 1, cells := 1, slots := 2, locals := 12 } : Room) #[(.int (1 : Int32))] h0 [] n0 (fun v h => ∃ (x : Addr) (kb : ClassId), v = some (.ref x) ∧ Keep h0 h [] ∧ @LE.le Nat _ h0.size x ∧ Arv Z h x kb .byte (2 : Int32) [(.int (0 : Int32)), (.int (0 : Int32))] (.int (0 : Int32))) := by
  refine Met.of (a0 := a0) (Ls := #[.val (.int (1 : Int32))]) (fun z => rfl) (plainFor_of_name pn_java_lang_StringUTF16) hEL (fun m => by first | (simp [entryFrame, mkF, argsToLocals, Value.category]; done) | rfl) ?_
  intro p e s m below meth c B hSf
  refine gs (mkF m 1 _ [(.int (1 : Int32))]) (fun T A t k => XS.iloadN A B.x rfl (B.d d22_0) rfl k) ?_
  refine g_metN (c_static B (hw _ (List.mem_of_getElem? (i := 96) rfl)) (hw _ (List.mem_of_getElem? (i := 97) rfl)) (hw _ (List.mem_of_getElem? (i := 76) rfl)) (hw _ (List.mem_of_getElem? (i := 98) rfl)) (by decide) rfl (lenOf pd_28I29I rfl) rfl (Nat.le_of_eq rfl) d22_1 rfl (argsL := [(.int (1 : Int32))]) (rest := []) (W := 0) (q := 4)) (n_nbl_1 l Z a0 hw hEL  h0 n0) (hw _ (List.mem_of_getElem? (i := 98) rfl)) (hw _ (List.mem_of_getElem? (i := 76) rfl)) (by decide) (by decide) (by decide) (by decide) ?_
  intro v1 h1 hz1 hQ1
  obtain ⟨rfl, rfl⟩ := hQ1
  refine g_newP B (hw _ (List.mem_of_getElem? (i := 20) rfl)) d22_4 (by decide) (cap := 2) (by decide) (by decide) (by decide) (by decide) (q := 6) rfl ?_
  intro h2 b2 k2 g2 E2 S2 A2
  have z2 := E2.1; have y2 : @LT.lt Nat _ b2 h2.size := A2.lt
  have V2 : Arv Z h2 b2 k2 .byte (2 : Int32) [(.int (0 : Int32)), (.int (0 : Int32))] (.int (0 : Int32)) := A2
  exact g_retA B rfl rfl d22_6 (by decide) (by decide) ⟨_, _, rfl, ((Keep.refl h0 []).ext E2), (by omega), V2⟩
theorem pd_28I295bB : parseMethodDescriptor "(I)[B" = some ⟨[.int], some (.array .byte)⟩ := by decide +kernel
theorem d21_1 : decode jdk_52_method_14_code 1 = .ok (.invokestatic 107, 3) := by decide +kernel
theorem d21_4 : decode jdk_52_method_14_code 4 = .ok (.astore_n 3, 1) := by decide +kernel
theorem d21_5 : decode jdk_52_method_14_code 5 = .ok (.iconst 0, 1) := by decide +kernel
theorem d21_6 : decode jdk_52_method_14_code 6 = .ok (.istore 4, 2) := by decide +kernel
theorem d21_8 : decode jdk_52_method_14_code 8 = .ok (.iload 4, 2) := by decide +kernel
theorem d21_10 : decode jdk_52_method_14_code 10 = .ok (.iload_n 2, 1) := by decide +kernel
theorem d21_11 : decode jdk_52_method_14_code 11 = .ok (.if_icmp .ge 21, 3) := by decide +kernel
theorem d21_14 : decode jdk_52_method_14_code 14 = .ok (.aload_n 3, 1) := by decide +kernel
theorem d21_15 : decode jdk_52_method_14_code 15 = .ok (.iload 4, 2) := by decide +kernel
theorem d21_17 : decode jdk_52_method_14_code 17 = .ok (.aload_n 0, 1) := by decide +kernel
theorem d21_18 : decode jdk_52_method_14_code 18 = .ok (.iload_n 1, 1) := by decide +kernel
theorem d21_19 : decode jdk_52_method_14_code 19 = .ok (.caload, 1) := by decide +kernel
theorem d24_0 : decode jdk_52_method_4_code 0 = .ok (.getstatic 44, 3) := by decide +kernel
theorem d24_3 : decode jdk_52_method_4_code 3 = .ok (.ifCond .ne 25, 3) := by decide +kernel
theorem d24_28 : decode jdk_52_method_4_code 28 = .ok (.iload_n 1, 1) := by decide +kernel
theorem d24_29 : decode jdk_52_method_4_code 29 = .ok (.iconst 1, 1) := by decide +kernel
theorem d24_30 : decode jdk_52_method_4_code 30 = .ok (.ishl, 1) := by decide +kernel
theorem d24_31 : decode jdk_52_method_4_code 31 = .ok (.istore_n 1, 1) := by decide +kernel
theorem d24_32 : decode jdk_52_method_4_code 32 = .ok (.aload_n 0, 1) := by decide +kernel
theorem d24_33 : decode jdk_52_method_4_code 33 = .ok (.iload_n 1, 1) := by decide +kernel
theorem d24_34 : decode jdk_52_method_4_code 34 = .ok (.iinc 1 1, 3) := by decide +kernel
theorem d24_37 : decode jdk_52_method_4_code 37 = .ok (.iload_n 2, 1) := by decide +kernel
theorem d24_38 : decode jdk_52_method_4_code 38 = .ok (.getstatic 59, 3) := by decide +kernel
theorem d24_41 : decode jdk_52_method_4_code 41 = .ok (.ishr, 1) := by decide +kernel
theorem d24_42 : decode jdk_52_method_4_code 42 = .ok (.i2b, 1) := by decide +kernel
theorem d24_43 : decode jdk_52_method_4_code 43 = .ok (.bastore, 1) := by decide +kernel
theorem d24_44 : decode jdk_52_method_4_code 44 = .ok (.aload_n 0, 1) := by decide +kernel
theorem d24_45 : decode jdk_52_method_4_code 45 = .ok (.iload_n 1, 1) := by decide +kernel
theorem d24_46 : decode jdk_52_method_4_code 46 = .ok (.iload_n 2, 1) := by decide +kernel
theorem d24_47 : decode jdk_52_method_4_code 47 = .ok (.getstatic 63, 3) := by decide +kernel
theorem d24_50 : decode jdk_52_method_4_code 50 = .ok (.ishr, 1) := by decide +kernel
theorem d24_51 : decode jdk_52_method_4_code 51 = .ok (.i2b, 1) := by decide +kernel
theorem d24_52 : decode jdk_52_method_4_code 52 = .ok (.bastore, 1) := by decide +kernel
theorem d24_53 : decode jdk_52_method_4_code 53 = .ok (.return_, 1) := by decide +kernel
set_option maxRecDepth 65536 in
set_option maxHeartbeats 40000000 in
theorem n_putc_2_0 (l : Launch) (Z : State) (a0 : Array Value) (hw : ∀ d ∈ tables_1, d.before a0 Z = true) (hEL : EW Z a0 []) (a1 : Addr) (cc : Int32) (zc : Int32) (rv : Value) (kb : ClassId) (v0 v1 : Value) (h0 : Heap) (n0 : Nat) (PA : Arv Z h0 a1 kb .byte (2 : Int32) [v0, v1] (.int (0 : Int32))) (hd : @LE.le Nat _ n0 a1) (PX : Sts Z zc rv) (PO : Old Z n0 h0) :
    Met false Z [] l (⟨"java/lang/StringUTF16", "putChar", "([BII)V"⟩ : MethodName) jdk_52_method_4_code 3 none ({ frames := 0, cells := 0, slots := 0, locals := 0 } : Room) #[(.ref a1), (.int (0 : Int32)), (.int cc)] h0 [] n0 (fun v h => v = none ∧ Keep h0 h [a1] ∧ Arv Z h a1 kb .byte (2 : Int32) [(.int (StrChars.lo8 cc)), (.int (StrChars.hi8 cc))] (.int (0 : Int32))) := by
  refine Met.of (a0 := a0) (Ls := #[.val (.ref a1), .val (.int (0 : Int32)), .val (.int cc)]) (fun z => rfl) (plainFor_of_name pn_java_lang_StringUTF16) hEL (fun m => by first | (simp [entryFrame, mkF, argsToLocals, Value.category]; done) | rfl) ?_
  intro p e s m below meth c B hSf
  obtain ⟨SC, hzc, SA, SH, SL, SF, rf⟩ := id PX
  refine g_getS B (hw _ (List.mem_of_getElem? (i := 103) rfl)) (SA.ext PO.2) d24_0 (q := 3) rfl ?_
  refine gs (mkF m 28 _ []) (fun T A t k => XS.ifYes A B.x rfl (pc0 := 3) (pc' := 28) rfl (B.d d24_3) rfl ((if0 _ _).trans (feq (by decide : ¬ ((1 : Int32) = (0 : Int32)))).2) (by decide) (by decide) k) ?_
  refine gs (mkF m 29 _ [(.int (0 : Int32))]) (fun T A t k => XS.iloadN A B.x rfl (B.d d24_28) rfl k) ?_
  refine gs (mkF m 30 _ [(.int (1 : Int32)), (.int (0 : Int32))]) (fun T A t k => XS.iconst A B.x rfl (B.d d24_29) k) ?_
  refine gs (mkF m 31 _ [(.int (0 : Int32))]) (fun T A t k => XS.ishl A B.x rfl (B.d d24_30) rfl k) ?_
  refine gs (mkF m 32 #[.val (.ref a1), .val (.int (0 : Int32)), .val (.int cc)] []) (fun T A t k => XS.istoreN A B.x rfl (B.d d24_31) rfl (l' := #[.val (.ref a1), .val (.int (0 : Int32)), .val (.int cc)]) rfl k) ?_
  refine gs (mkF m 33 _ [(.ref a1)]) (fun T A t k => XS.aloadN A B.x rfl (B.d d24_32) rfl rfl k) ?_
  refine gs (mkF m 34 _ [(.int (0 : Int32)), (.ref a1)]) (fun T A t k => XS.iloadN A B.x rfl (B.d d24_33) rfl k) ?_
  refine gs (mkF m 37 #[.val (.ref a1), .val (.int (1 : Int32)), .val (.int cc)] [(.int (0 : Int32)), (.ref a1)]) (fun T A t k => XS.iinc A B.x rfl (B.d d24_34) rfl (l' := #[.val (.ref a1), .val (.int (1 : Int32)), .val (.int cc)]) rfl k) ?_
  refine gs (mkF m 38 _ [(.int cc), (.int (0 : Int32)), (.ref a1)]) (fun T A t k => XS.iloadN A B.x rfl (B.d d24_37) rfl k) ?_
  refine g_getS B (hw _ (List.mem_of_getElem? (i := 104) rfl)) (SH.ext PO.2) d24_38 (q := 41) rfl ?_
  refine gs (mkF m 42 _ [(.int (cc >>> ((0 : Int32) &&& 31))), (.int (0 : Int32)), (.ref a1)]) (fun T A t k => XS.ishr A B.x rfl (B.d d24_41) rfl k) ?_
  refine gs (mkF m 43 _ [(.int ((cc >>> ((0 : Int32) &&& 31)).toInt8.toInt32)), (.int (0 : Int32)), (.ref a1)]) (fun T A t k => XS.i2b A B.x rfl (B.d d24_42) rfl k) ?_
  refine g_stB B PA (x' := (StrChars.lo8 cc)) (nbL _) ⟨by decide, by decide⟩ (i := 0) rfl (Nat.le_of_ble_eq_true rfl) d24_43 nos (by omega) (q := 44) rfl ?_
  intro h21 W21 A21
  have z21 := W21.size
  have V21 : Arv Z h21 a1 kb .byte (2 : Int32) [(.int (StrChars.lo8 cc)), v1] (.int (0 : Int32)) := A21
  refine gs (mkF m 45 _ [(.ref a1)]) (fun T A t k => XS.aloadN A B.x rfl (B.d d24_44) rfl rfl k) ?_
  refine gs (mkF m 46 _ [(.int (1 : Int32)), (.ref a1)]) (fun T A t k => XS.iloadN A B.x rfl (B.d d24_45) rfl k) ?_
  refine gs (mkF m 47 _ [(.int cc), (.int (1 : Int32)), (.ref a1)]) (fun T A t k => XS.iloadN A B.x rfl (B.d d24_46) rfl k) ?_
  refine g_getS B (hw _ (List.mem_of_getElem? (i := 105) rfl)) (SL.ext (PO.wr W21 (by omega)).2) d24_47 (q := 50) rfl ?_
  refine gs (mkF m 51 _ [(.int (cc >>> ((8 : Int32) &&& 31))), (.int (1 : Int32)), (.ref a1)]) (fun T A t k => XS.ishr A B.x rfl (B.d d24_50) rfl k) ?_
  refine gs (mkF m 52 _ [(.int ((cc >>> ((8 : Int32) &&& 31)).toInt8.toInt32)), (.int (1 : Int32)), (.ref a1)]) (fun T A t k => XS.i2b A B.x rfl (B.d d24_51) rfl k) ?_
  refine g_stB B V21 (x' := (StrChars.hi8 cc)) (nbH _) ⟨by decide, by decide⟩ (i := 1) rfl (Nat.le_of_ble_eq_true rfl) d24_52 nos (by omega) (q := 53) rfl ?_
  intro h22 W22 A22
  have z22 := W22.size
  have V22 : Arv Z h22 a1 kb .byte (2 : Int32) [(.int (StrChars.lo8 cc)), (.int (StrChars.hi8 cc))] (.int (0 : Int32)) := A22
  exact g_ret0 B d24_53 (by decide) (by decide) ⟨rfl, (((Keep.refl h0 [a1]).wr W21 (Or.inl (by simp))).wr W22 (Or.inl (by simp))), V22⟩
theorem pd_285bBII29V : parseMethodDescriptor "([BII)V" = some ⟨[(.array .byte), .int, .int], none⟩ := by decide +kernel
theorem d21_20 : decode jdk_52_method_14_code 20 = .ok (.invokestatic 111, 3) := by decide +kernel
theorem d21_23 : decode jdk_52_method_14_code 23 = .ok (.iinc 1 1, 3) := by decide +kernel
theorem d21_26 : decode jdk_52_method_14_code 26 = .ok (.iinc 4 1, 3) := by decide +kernel
theorem d21_29 : decode jdk_52_method_14_code 29 = .ok (.goto (-21), 3) := by decide +kernel
theorem d21_32 : decode jdk_52_method_14_code 32 = .ok (.aload_n 3, 1) := by decide +kernel
theorem d21_33 : decode jdk_52_method_14_code 33 = .ok (.areturn, 1) := by decide +kernel
set_option maxRecDepth 65536 in
set_option maxHeartbeats 40000000 in
theorem n_tob_1 (l : Launch) (Z : State) (a0 : Array Value) (hw : ∀ d ∈ tables_1, d.before a0 Z = true) (hEL : EW Z a0 []) (a1 : Addr) (zc : Int32) (rv : Value) (kc : ClassId) (c0 : Int32) (h0 : Heap) (n0 : Nat) (PA : Arv Z h0 a1 kc .char (1 : Int32) [(.int c0)] (.int (0 : Int32))) (hn : @LE.le Nat _ n0 h0.size) (ha : @LT.lt Nat _ a1 h0.size) (PX : Sts Z zc rv) (PO : Old Z n0 h0) :
    Met false Z [] l (⟨"java/lang/StringUTF16", "toBytes", "([CII)[B"⟩ : MethodName) jdk_52_method_14_code 5 (some (.array .byte)) ({ frames := 2, cells := 1, slots := 2, locals := 24 } : Room) #[(.ref a1), (.int (0 : Int32)), (.int (1 : Int32))] h0 [] n0 (fun v h => ∃ (x : Addr) (kb : ClassId), v = some (.ref x) ∧ Keep h0 h [] ∧ @LE.le Nat _ h0.size x ∧ Arv Z h x kb .byte (2 : Int32) [(.int (StrChars.lo8 c0)), (.int (StrChars.hi8 c0))] (.int (0 : Int32))) := by
  refine Met.of (a0 := a0) (Ls := #[.val (.ref a1), .val (.int (0 : Int32)), .val (.int (1 : Int32)), .unset, .unset]) (fun z => rfl) (plainFor_of_name pn_java_lang_StringUTF16) hEL (fun m => by first | (simp [entryFrame, mkF, argsToLocals, Value.category]; done) | rfl) ?_
  intro p e s m below meth c B hSf
  obtain ⟨SC, hzc, SA, SH, SL, SF, rf⟩ := id PX
  refine gs (mkF m 1 _ [(.int (1 : Int32))]) (fun T A t k => XS.iloadN A B.x rfl (B.d d21_0) rfl k) ?_
  refine g_metN (c_static B (hw _ (List.mem_of_getElem? (i := 93) rfl)) (hw _ (List.mem_of_getElem? (i := 94) rfl)) (hw _ (List.mem_of_getElem? (i := 76) rfl)) (hw _ (List.mem_of_getElem? (i := 95) rfl)) (by decide) rfl (lenOf pd_28I295bB rfl) rfl (Nat.le_of_eq rfl) d21_1 rfl (argsL := [(.int (1 : Int32))]) (rest := []) (W := 0) (q := 4)) (n_nbf_1 l Z a0 hw hEL  h0 n0) (hw _ (List.mem_of_getElem? (i := 95) rfl)) (hw _ (List.mem_of_getElem? (i := 76) rfl)) (by decide) (by decide) (by decide) (by decide) ?_
  intro v21 h21 hz21 hQ21
  obtain ⟨x21, k21, rfl, K21, g21, V21⟩ := hQ21
  have z21 := K21.1; have y21 : @LT.lt Nat _ x21 h21.size := V21.lt
  refine gs (mkF m 5 #[.val (.ref a1), .val (.int (0 : Int32)), .val (.int (1 : Int32)), .val (.ref x21), .unset] []) (fun T A t k => XS.astoreN A B.x rfl (B.d d21_4) rfl rfl (l' := #[.val (.ref a1), .val (.int (0 : Int32)), .val (.int (1 : Int32)), .val (.ref x21), .unset]) rfl k) ?_
  refine gs (mkF m 6 _ [(.int (0 : Int32))]) (fun T A t k => XS.iconst A B.x rfl (B.d d21_5) k) ?_
  refine gs (mkF m 8 #[.val (.ref a1), .val (.int (0 : Int32)), .val (.int (1 : Int32)), .val (.ref x21), .val (.int (0 : Int32))] []) (fun T A t k => XS.istore A B.x rfl (B.d d21_6) rfl (l' := #[.val (.ref a1), .val (.int (0 : Int32)), .val (.int (1 : Int32)), .val (.ref x21), .val (.int (0 : Int32))]) rfl k) ?_
  refine gs (mkF m 10 _ [(.int (0 : Int32))]) (fun T A t k => XS.iload A B.x rfl (B.d d21_8) rfl k) ?_
  refine gs (mkF m 11 _ [(.int (1 : Int32)), (.int (0 : Int32))]) (fun T A t k => XS.iloadN A B.x rfl (B.d d21_10) rfl k) ?_
  refine gs (mkF m 14 _ []) (fun T A t k => XS.icmpNo A B.x rfl (B.d d21_11) rfl (tlt (by decide : (0 : Int32) < (1 : Int32))).2.1 k) ?_
  refine gs (mkF m 15 _ [(.ref x21)]) (fun T A t k => XS.aloadN A B.x rfl (B.d d21_14) rfl rfl k) ?_
  refine gs (mkF m 17 _ [(.int (0 : Int32)), (.ref x21)]) (fun T A t k => XS.iload A B.x rfl (B.d d21_15) rfl k) ?_
  refine gs (mkF m 18 _ [(.ref a1), (.int (0 : Int32)), (.ref x21)]) (fun T A t k => XS.aloadN A B.x rfl (B.d d21_17) rfl rfl k) ?_
  refine gs (mkF m 19 _ [(.int (0 : Int32)), (.ref a1), (.int (0 : Int32)), (.ref x21)]) (fun T A t k => XS.iloadN A B.x rfl (B.d d21_18) rfl k) ?_
  refine g_ldC B (PA.keep K21 nin0) ⟨by decide, by decide⟩ (v := (.int c0)) rfl d21_19 (q := 20) rfl ?_
  refine g_metN (c_static B (hw _ (List.mem_of_getElem? (i := 100) rfl)) (hw _ (List.mem_of_getElem? (i := 101) rfl)) (hw _ (List.mem_of_getElem? (i := 76) rfl)) (hw _ (List.mem_of_getElem? (i := 102) rfl)) (by decide) rfl (lenOf pd_285bBII29V rfl) rfl (Nat.le_of_eq rfl) d21_20 rfl (argsL := [(.ref x21), (.int (0 : Int32)), (.int c0)]) (rest := []) (W := 0) (q := 23)) (n_putc_2_0 l Z a0 hw hEL x21 (c0) zc rv k21 (.int (0 : Int32)) (.int (0 : Int32)) h21 n0 V21 (by omega) PX (PO.keep K21 all0)) (hw _ (List.mem_of_getElem? (i := 102) rfl)) (hw _ (List.mem_of_getElem? (i := 76) rfl)) (by decide) (by decide) (by decide) (by decide) ?_
  intro v22 h22 hz22 hQ22
  obtain ⟨rfl, K22, V22⟩ := hQ22
  have z22 := K22.1
  refine gs (mkF m 26 #[.val (.ref a1), .val (.int (1 : Int32)), .val (.int (1 : Int32)), .val (.ref x21), .val (.int (0 : Int32))] []) (fun T A t k => XS.iinc A B.x rfl (B.d d21_23) rfl (l' := #[.val (.ref a1), .val (.int (1 : Int32)), .val (.int (1 : Int32)), .val (.ref x21), .val (.int (0 : Int32))]) rfl k) ?_
  refine gs (mkF m 29 #[.val (.ref a1), .val (.int (1 : Int32)), .val (.int (1 : Int32)), .val (.ref x21), .val (.int (1 : Int32))] []) (fun T A t k => XS.iinc A B.x rfl (B.d d21_26) rfl (l' := #[.val (.ref a1), .val (.int (1 : Int32)), .val (.int (1 : Int32)), .val (.ref x21), .val (.int (1 : Int32))]) rfl k) ?_
  refine gs (mkF m 8 _ []) (fun T A t k => XS.goto A B.x rfl (pc0 := 29) (pc' := 8) rfl (B.d d21_29) (by decide) (by decide) k) ?_
  refine gs (mkF m 10 _ [(.int (1 : Int32))]) (fun T A t k => XS.iload A B.x rfl (B.d d21_8) rfl k) ?_
  refine gs (mkF m 11 _ [(.int (1 : Int32)), (.int (1 : Int32))]) (fun T A t k => XS.iloadN A B.x rfl (B.d d21_10) rfl k) ?_
  refine gs (mkF m 32 _ []) (fun T A t k => XS.icmpYes A B.x rfl (pc0 := 11) (pc' := 32) rfl (B.d d21_11) rfl (flt (by decide : ¬ ((1 : Int32) < (1 : Int32)))).2.1 (by decide) (by decide) k) ?_
  refine gs (mkF m 33 _ [(.ref x21)]) (fun T A t k => XS.aloadN A B.x rfl (B.d d21_32) rfl rfl k) ?_
  exact g_retA B rfl rfl d21_33 (by decide) (by decide) ⟨_, _, rfl, (((Keep.refl h0 []).trans K21 all0).trans K22 (allS (Or.inr (by omega)) all0)), (by omega), V22⟩
theorem pd_285bCII295bB : parseMethodDescriptor "([CII)[B" = some ⟨[(.array .char), .int, .int], some (.array .byte)⟩ := by decide +kernel
theorem d16_23 : decode jdk_52_method_16_code 23 = .ok (.invokestatic 119, 3) := by decide +kernel
theorem d16_26 : decode jdk_52_method_16_code 26 = .ok (.astore 5, 2) := by decide +kernel
theorem d16_28 : decode jdk_52_method_16_code 28 = .ok (.aload 5, 2) := by decide +kernel
theorem d16_30 : decode jdk_52_method_16_code 30 = .ok (.iload 4, 2) := by decide +kernel
theorem d25_0 : decode jdk_52_method_5_code 0 = .ok (.getstatic 44, 3) := by decide +kernel
theorem d25_3 : decode jdk_52_method_5_code 3 = .ok (.ifCond .ne 25, 3) := by decide +kernel
theorem d25_28 : decode jdk_52_method_5_code 28 = .ok (.iload_n 1, 1) := by decide +kernel
theorem d25_29 : decode jdk_52_method_5_code 29 = .ok (.iconst 1, 1) := by decide +kernel
theorem d25_30 : decode jdk_52_method_5_code 30 = .ok (.ishl, 1) := by decide +kernel
theorem d25_31 : decode jdk_52_method_5_code 31 = .ok (.istore_n 1, 1) := by decide +kernel
theorem d25_32 : decode jdk_52_method_5_code 32 = .ok (.aload_n 0, 1) := by decide +kernel
theorem d25_33 : decode jdk_52_method_5_code 33 = .ok (.iload_n 1, 1) := by decide +kernel
theorem d25_34 : decode jdk_52_method_5_code 34 = .ok (.iinc 1 1, 3) := by decide +kernel
theorem d25_37 : decode jdk_52_method_5_code 37 = .ok (.baload, 1) := by decide +kernel
theorem d25_38 : decode jdk_52_method_5_code 38 = .ok (.sipush 255, 3) := by decide +kernel
theorem d25_41 : decode jdk_52_method_5_code 41 = .ok (.iand, 1) := by decide +kernel
theorem d25_42 : decode jdk_52_method_5_code 42 = .ok (.getstatic 59, 3) := by decide +kernel
theorem d25_45 : decode jdk_52_method_5_code 45 = .ok (.ishl, 1) := by decide +kernel
theorem d25_46 : decode jdk_52_method_5_code 46 = .ok (.aload_n 0, 1) := by decide +kernel
theorem d25_47 : decode jdk_52_method_5_code 47 = .ok (.iload_n 1, 1) := by decide +kernel
theorem d25_48 : decode jdk_52_method_5_code 48 = .ok (.baload, 1) := by decide +kernel
theorem d25_49 : decode jdk_52_method_5_code 49 = .ok (.sipush 255, 3) := by decide +kernel
theorem d25_52 : decode jdk_52_method_5_code 52 = .ok (.iand, 1) := by decide +kernel
theorem d25_53 : decode jdk_52_method_5_code 53 = .ok (.getstatic 63, 3) := by decide +kernel
theorem d25_56 : decode jdk_52_method_5_code 56 = .ok (.ishl, 1) := by decide +kernel
theorem d25_57 : decode jdk_52_method_5_code 57 = .ok (.ior, 1) := by decide +kernel
theorem d25_58 : decode jdk_52_method_5_code 58 = .ok (.i2c, 1) := by decide +kernel
theorem d25_59 : decode jdk_52_method_5_code 59 = .ok (.ireturn, 1) := by decide +kernel
set_option maxRecDepth 65536 in
set_option maxHeartbeats 40000000 in
theorem n_gc_2_0 (l : Launch) (Z : State) (a0 : Array Value) (hw : ∀ d ∈ tables_1, d.before a0 Z = true) (hEL : EW Z a0 []) (a1 : Addr) (zc : Int32) (rv : Value) (kb : ClassId) (c0 : Int32) (h0 : Heap) (n0 : Nat) (PA : Arv Z h0 a1 kb .byte (2 : Int32) [(.int (StrChars.lo8 c0)), (.int (StrChars.hi8 c0))] (.int (0 : Int32))) (hr : rng c0) (PX : Sts Z zc rv) (PO : Old Z n0 h0) :
    Met false Z [] l (⟨"java/lang/StringUTF16", "getChar", "([BI)C"⟩ : MethodName) jdk_52_method_5_code 2 (some .char) ({ frames := 0, cells := 0, slots := 0, locals := 0 } : Room) #[(.ref a1), (.int (0 : Int32))] h0 [] n0 (fun v h => v = some (.int c0) ∧ h0 = h) := by
  refine Met.of (a0 := a0) (Ls := #[.val (.ref a1), .val (.int (0 : Int32))]) (fun z => rfl) (plainFor_of_name pn_java_lang_StringUTF16) hEL (fun m => by first | (simp [entryFrame, mkF, argsToLocals, Value.category]; done) | rfl) ?_
  intro p e s m below meth c B hSf
  obtain ⟨SC, hzc, SA, SH, SL, SF, rf⟩ := id PX
  refine g_getS B (hw _ (List.mem_of_getElem? (i := 103) rfl)) (SA.ext PO.2) d25_0 (q := 3) rfl ?_
  refine gs (mkF m 28 _ []) (fun T A t k => XS.ifYes A B.x rfl (pc0 := 3) (pc' := 28) rfl (B.d d25_3) rfl ((if0 _ _).trans (feq (by decide : ¬ ((1 : Int32) = (0 : Int32)))).2) (by decide) (by decide) k) ?_
  refine gs (mkF m 29 _ [(.int (0 : Int32))]) (fun T A t k => XS.iloadN A B.x rfl (B.d d25_28) rfl k) ?_
  refine gs (mkF m 30 _ [(.int (1 : Int32)), (.int (0 : Int32))]) (fun T A t k => XS.iconst A B.x rfl (B.d d25_29) k) ?_
  refine gs (mkF m 31 _ [(.int (0 : Int32))]) (fun T A t k => XS.ishl A B.x rfl (B.d d25_30) rfl k) ?_
  refine gs (mkF m 32 #[.val (.ref a1), .val (.int (0 : Int32))] []) (fun T A t k => XS.istoreN A B.x rfl (B.d d25_31) rfl (l' := #[.val (.ref a1), .val (.int (0 : Int32))]) rfl k) ?_
  refine gs (mkF m 33 _ [(.ref a1)]) (fun T A t k => XS.aloadN A B.x rfl (B.d d25_32) rfl rfl k) ?_
  refine gs (mkF m 34 _ [(.int (0 : Int32)), (.ref a1)]) (fun T A t k => XS.iloadN A B.x rfl (B.d d25_33) rfl k) ?_
  refine gs (mkF m 37 #[.val (.ref a1), .val (.int (1 : Int32))] [(.int (0 : Int32)), (.ref a1)]) (fun T A t k => XS.iinc A B.x rfl (B.d d25_34) rfl (l' := #[.val (.ref a1), .val (.int (1 : Int32))]) rfl k) ?_
  refine g_ldB B PA ⟨by decide, by decide⟩ (v := (.int (StrChars.lo8 c0))) rfl d25_37 (q := 38) rfl ?_
  refine gs (mkF m 41 _ [(.int (255 : Int32)), (.int (StrChars.lo8 c0))]) (fun T A t k => XS.sipush A B.x rfl (B.d d25_38) k) ?_
  refine gs (mkF m 42 _ [(.int ((StrChars.lo8 c0) &&& (255 : Int32)))]) (fun T A t k => XS.iand A B.x rfl (B.d d25_41) rfl k) ?_
  refine g_getS B (hw _ (List.mem_of_getElem? (i := 104) rfl)) (SH.ext PO.2) d25_42 (q := 45) rfl ?_
  refine gs (mkF m 46 _ [(.int (((StrChars.lo8 c0) &&& (255 : Int32)) <<< ((0 : Int32) &&& 31)))]) (fun T A t k => XS.ishl A B.x rfl (B.d d25_45) rfl k) ?_
  refine gs (mkF m 47 _ [(.ref a1), (.int (((StrChars.lo8 c0) &&& (255 : Int32)) <<< ((0 : Int32) &&& 31)))]) (fun T A t k => XS.aloadN A B.x rfl (B.d d25_46) rfl rfl k) ?_
  refine gs (mkF m 48 _ [(.int (1 : Int32)), (.ref a1), (.int (((StrChars.lo8 c0) &&& (255 : Int32)) <<< ((0 : Int32) &&& 31)))]) (fun T A t k => XS.iloadN A B.x rfl (B.d d25_47) rfl k) ?_
  refine g_ldB B PA ⟨by decide, by decide⟩ (v := (.int (StrChars.hi8 c0))) rfl d25_48 (q := 49) rfl ?_
  refine gs (mkF m 52 _ [(.int (255 : Int32)), (.int (StrChars.hi8 c0)), (.int (((StrChars.lo8 c0) &&& (255 : Int32)) <<< ((0 : Int32) &&& 31)))]) (fun T A t k => XS.sipush A B.x rfl (B.d d25_49) k) ?_
  refine gs (mkF m 53 _ [(.int ((StrChars.hi8 c0) &&& (255 : Int32))), (.int (((StrChars.lo8 c0) &&& (255 : Int32)) <<< ((0 : Int32) &&& 31)))]) (fun T A t k => XS.iand A B.x rfl (B.d d25_52) rfl k) ?_
  refine g_getS B (hw _ (List.mem_of_getElem? (i := 105) rfl)) (SL.ext PO.2) d25_53 (q := 56) rfl ?_
  refine gs (mkF m 57 _ [(.int (((StrChars.hi8 c0) &&& (255 : Int32)) <<< ((8 : Int32) &&& 31))), (.int (((StrChars.lo8 c0) &&& (255 : Int32)) <<< ((0 : Int32) &&& 31)))]) (fun T A t k => XS.ishl A B.x rfl (B.d d25_56) rfl k) ?_
  refine gs (mkF m 58 _ [(.int ((((StrChars.lo8 c0) &&& (255 : Int32)) <<< ((0 : Int32) &&& 31)) ||| (((StrChars.hi8 c0) &&& (255 : Int32)) <<< ((8 : Int32) &&& 31))))]) (fun T A t k => XS.ior A B.x rfl (B.d d25_57) rfl k) ?_
  refine gs (mkF m 59 _ [(.int (((((StrChars.lo8 c0) &&& (255 : Int32)) <<< ((0 : Int32) &&& 31)) ||| (((StrChars.hi8 c0) &&& (255 : Int32)) <<< ((8 : Int32) &&& 31))).toUInt32.toUInt16.toUInt32.toInt32))]) (fun T A t k => XS.i2c A B.x rfl (B.d d25_58) rfl k) ?_
  exact g_retN (t := .char) B (by simp) d25_59 (by decide) (by decide) ⟨congrArg (fun z => some (Value.int z)) (got_ch hr), rfl⟩
theorem pd_285bBI29C : parseMethodDescriptor "([BI)C" = some ⟨[(.array .byte), .int], some .char⟩ := by decide +kernel
theorem d16_32 : decode jdk_52_method_16_code 32 = .ok (.invokestatic 71, 3) := by decide +kernel
theorem d16_35 : decode jdk_52_method_16_code 35 = .ok (.sipush 255, 3) := by decide +kernel
theorem d16_38 : decode jdk_52_method_16_code 38 = .ok (.if_icmp .gt 16, 3) := by decide +kernel
theorem d16_54 : decode jdk_52_method_16_code 54 = .ok (.aload 5, 2) := by decide +kernel
theorem d16_56 : decode jdk_52_method_16_code 56 = .ok (.areturn, 1) := by decide +kernel
set_option maxRecDepth 65536 in
set_option maxHeartbeats 40000000 in
theorem n_comp3_1_0 (l : Launch) (Z : State) (a0 : Array Value) (hw : ∀ d ∈ tables_1, d.before a0 Z = true) (hEL : EW Z a0 []) (a1 : Addr) (zc : Int32) (rv : Value) (kc : ClassId) (c0 : Int32) (h0 : Heap) (n0 : Nat) (PA : Arv Z h0 a1 kc .char (1 : Int32) [(.int c0)] (.int (0 : Int32))) (hn : @LE.le Nat _ n0 h0.size) (ha : @LT.lt Nat _ a1 h0.size) (hr0 : rng c0)  (hg : (255 : Int32) < c0) (PX : Sts Z zc rv) (PO : Old Z n0 h0) :
    Met false Z [] l (⟨"java/lang/StringUTF16", "compress", "([CII)[B"⟩ : MethodName) jdk_52_method_16_code 6 (some (.array .byte)) ({ frames := 3, cells := 2, slots := 3, locals := 40 } : Room) #[(.ref a1), (.int (0 : Int32)), (.int (1 : Int32))] h0 [] n0 (fun v h => ∃ (x : Addr) (kb : ClassId), v = some (.ref x) ∧ Keep h0 h [] ∧ @LE.le Nat _ h0.size x ∧ Arv Z h x kb .byte (2 : Int32) [(.int (StrChars.lo8 c0)), (.int (StrChars.hi8 c0))] (.int (0 : Int32))) := by
  refine Met.of (a0 := a0) (Ls := #[.val (.ref a1), .val (.int (0 : Int32)), .val (.int (1 : Int32)), .unset, .unset, .unset]) (fun z => rfl) (plainFor_of_name pn_java_lang_StringUTF16) hEL (fun m => by first | (simp [entryFrame, mkF, argsToLocals, Value.category]; done) | rfl) ?_
  intro p e s m below meth c B hSf
  obtain ⟨SC, hzc, SA, SH, SL, SF, rf⟩ := id PX
  refine gs (mkF m 1 _ [(.int (1 : Int32))]) (fun T A t k => XS.iloadN A B.x rfl (B.d d16_0) rfl k) ?_
  refine g_newP B (hw _ (List.mem_of_getElem? (i := 20) rfl)) d16_1 (by decide) (cap := 1) (by decide) (by decide) (by decide) (by decide) (q := 3) rfl ?_
  intro h21 b21 k21 g21 E21 S21 A21
  have z21 := E21.1; have y21 : @LT.lt Nat _ b21 h21.size := A21.lt
  have V21 : Arv Z h21 b21 k21 .byte (1 : Int32) [(.int (0 : Int32))] (.int (0 : Int32)) := A21
  refine gs (mkF m 4 #[.val (.ref a1), .val (.int (0 : Int32)), .val (.int (1 : Int32)), .val (.ref b21), .unset, .unset] []) (fun T A t k => XS.astoreN A B.x rfl (B.d d16_3) rfl rfl (l' := #[.val (.ref a1), .val (.int (0 : Int32)), .val (.int (1 : Int32)), .val (.ref b21), .unset, .unset]) rfl k) ?_
  refine gs (mkF m 5 _ [(.ref a1)]) (fun T A t k => XS.aloadN A B.x rfl (B.d d16_4) rfl rfl k) ?_
  refine gs (mkF m 6 _ [(.int (0 : Int32)), (.ref a1)]) (fun T A t k => XS.iloadN A B.x rfl (B.d d16_5) rfl k) ?_
  refine gs (mkF m 7 _ [(.ref b21), (.int (0 : Int32)), (.ref a1)]) (fun T A t k => XS.aloadN A B.x rfl (B.d d16_6) rfl rfl k) ?_
  refine gs (mkF m 8 _ [(.int (0 : Int32)), (.ref b21), (.int (0 : Int32)), (.ref a1)]) (fun T A t k => XS.iconst A B.x rfl (B.d d16_7) k) ?_
  refine gs (mkF m 9 _ [(.int (1 : Int32)), (.int (0 : Int32)), (.ref b21), (.int (0 : Int32)), (.ref a1)]) (fun T A t k => XS.iloadN A B.x rfl (B.d d16_8) rfl k) ?_
  refine g_metN (c_static B (hw _ (List.mem_of_getElem? (i := 78) rfl)) (hw _ (List.mem_of_getElem? (i := 79) rfl)) (hw _ (List.mem_of_getElem? (i := 76) rfl)) (hw _ (List.mem_of_getElem? (i := 80) rfl)) (by decide) rfl (lenOf pd_285bCI5bBII29I rfl) rfl (Nat.le_of_eq rfl) d16_9 rfl (argsL := [(.ref a1), (.int (0 : Int32)), (.ref b21), (.int (0 : Int32)), (.int (1 : Int32))]) (rest := []) (W := 0) (q := 12)) (n_comp5_1_0 l Z a0 hw hEL a1 b21 kc k21 c0 h21 n0 (PA.ext E21) V21 (by omega) (by omega)  hg) (hw _ (List.mem_of_getElem? (i := 80) rfl)) (hw _ (List.mem_of_getElem? (i := 76) rfl)) (by decide) (by decide) (by decide) (by decide) ?_
  intro v22 h22 hz22 hQ22
  obtain ⟨rfl, K22⟩ := hQ22
  have z22 := K22.1
  refine gs (mkF m 14 #[.val (.ref a1), .val (.int (0 : Int32)), .val (.int (1 : Int32)), .val (.ref b21), .val (.int (0 : Int32)), .unset] []) (fun T A t k => XS.istore A B.x rfl (B.d d16_12) rfl (l' := #[.val (.ref a1), .val (.int (0 : Int32)), .val (.int (1 : Int32)), .val (.ref b21), .val (.int (0 : Int32)), .unset]) rfl k) ?_
  refine gs (mkF m 16 _ [(.int (0 : Int32))]) (fun T A t k => XS.iload A B.x rfl (B.d d16_14) rfl k) ?_
  refine gs (mkF m 17 _ [(.int (1 : Int32)), (.int (0 : Int32))]) (fun T A t k => XS.iloadN A B.x rfl (B.d d16_16) rfl k) ?_
  refine gs (mkF m 20 _ []) (fun T A t k => XS.icmpNo A B.x rfl (B.d d16_17) rfl (feq (by decide : ¬ ((0 : Int32) = (1 : Int32)))).1 k) ?_
  refine gs (mkF m 21 _ [(.ref a1)]) (fun T A t k => XS.aloadN A B.x rfl (B.d d16_20) rfl rfl k) ?_
  refine gs (mkF m 22 _ [(.int (0 : Int32)), (.ref a1)]) (fun T A t k => XS.iloadN A B.x rfl (B.d d16_21) rfl k) ?_
  refine gs (mkF m 23 _ [(.int (1 : Int32)), (.int (0 : Int32)), (.ref a1)]) (fun T A t k => XS.iloadN A B.x rfl (B.d d16_22) rfl k) ?_
  refine g_metN (c_static B (hw _ (List.mem_of_getElem? (i := 90) rfl)) (hw _ (List.mem_of_getElem? (i := 91) rfl)) (hw _ (List.mem_of_getElem? (i := 76) rfl)) (hw _ (List.mem_of_getElem? (i := 92) rfl)) (by decide) rfl (lenOf pd_285bCII295bB rfl) rfl (Nat.le_of_eq rfl) d16_23 rfl (argsL := [(.ref a1), (.int (0 : Int32)), (.int (1 : Int32))]) (rest := []) (W := 0) (q := 26)) (n_tob_1 l Z a0 hw hEL a1 zc rv kc c0 h22 n0 ((PA.ext E21).keep K22 (ninS (by omega : @Ne Nat a1 b21) nin0)) (by omega) (by omega) PX ((PO.ext E21).keep K22 (allS (by omega) all0))) (hw _ (List.mem_of_getElem? (i := 92) rfl)) (hw _ (List.mem_of_getElem? (i := 76) rfl)) (by decide) (by decide) (by decide) (by decide) ?_
  intro v23 h23 hz23 hQ23
  obtain ⟨x23, k23, rfl, K23, g23, V23⟩ := hQ23
  have z23 := K23.1; have y23 : @LT.lt Nat _ x23 h23.size := V23.lt
  refine gs (mkF m 28 #[.val (.ref a1), .val (.int (0 : Int32)), .val (.int (1 : Int32)), .val (.ref b21), .val (.int (0 : Int32)), .val (.ref x23)] []) (fun T A t k => XS.astore A B.x rfl (B.d d16_26) rfl rfl (l' := #[.val (.ref a1), .val (.int (0 : Int32)), .val (.int (1 : Int32)), .val (.ref b21), .val (.int (0 : Int32)), .val (.ref x23)]) rfl k) ?_
  refine gs (mkF m 30 _ [(.ref x23)]) (fun T A t k => XS.aload A B.x rfl (B.d d16_28) rfl rfl k) ?_
  refine gs (mkF m 32 _ [(.int (0 : Int32)), (.ref x23)]) (fun T A t k => XS.iload A B.x rfl (B.d d16_30) rfl k) ?_
  refine g_metN (c_static B (hw _ (List.mem_of_getElem? (i := 106) rfl)) (hw _ (List.mem_of_getElem? (i := 107) rfl)) (hw _ (List.mem_of_getElem? (i := 76) rfl)) (hw _ (List.mem_of_getElem? (i := 108) rfl)) (by decide) rfl (lenOf pd_285bBI29C rfl) rfl (Nat.le_of_eq rfl) d16_32 rfl (argsL := [(.ref x23), (.int (0 : Int32))]) (rest := []) (W := 0) (q := 35)) (n_gc_2_0 l Z a0 hw hEL x23 zc rv k23 c0 h23 n0 V23 hr0 PX (((PO.ext E21).keep K22 (allS (by omega) all0)).keep K23 all0)) (hw _ (List.mem_of_getElem? (i := 108) rfl)) (hw _ (List.mem_of_getElem? (i := 76) rfl)) (by decide) (by decide) (by decide) (by decide) ?_
  intro v24 h24 hz24 hQ24
  obtain ⟨rfl, rfl⟩ := hQ24
  refine gs (mkF m 38 _ [(.int (255 : Int32)), (.int c0)]) (fun T A t k => XS.sipush A B.x rfl (B.d d16_35) k) ?_
  refine gs (mkF m 54 _ []) (fun T A t k => XS.icmpYes A B.x rfl (pc0 := 38) (pc' := 54) rfl (B.d d16_38) rfl (tlt (hg : (255 : Int32) < c0)).2.2.1 (by decide) (by decide) k) ?_
  refine gs (mkF m 56 _ [(.ref x23)]) (fun T A t k => XS.aload A B.x rfl (B.d d16_54) rfl rfl k) ?_
  exact g_retA B rfl rfl d16_56 (by decide) (by decide) ⟨_, _, rfl, ((((Keep.refl h0 []).ext E21).trans K22 (allS (Or.inr (by omega)) all0)).trans K23 all0), (by omega), V23⟩
theorem d3_36 : decode jdk_42_method_149_code 36 = .ok (.invokestatic 177, 3) := by decide +kernel
theorem d3_39 : decode jdk_42_method_149_code 39 = .ok (.astore 5, 2) := by decide +kernel
theorem d3_41 : decode jdk_42_method_149_code 41 = .ok (.aload_n 0, 1) := by decide +kernel
theorem d3_42 : decode jdk_42_method_149_code 42 = .ok (.aload 5, 2) := by decide +kernel
theorem d3_44 : decode jdk_42_method_149_code 44 = .ok (.iload_n 3, 1) := by decide +kernel
theorem d18_0 : decode jdk_52_method_15_code 0 = .ok (.iload_n 1, 1) := by decide +kernel
theorem d18_1 : decode jdk_52_method_15_code 1 = .ok (.aload_n 0, 1) := by decide +kernel
theorem d18_2 : decode jdk_52_method_15_code 2 = .ok (.arraylength, 1) := by decide +kernel
theorem d18_3 : decode jdk_52_method_15_code 3 = .ok (.isub, 1) := by decide +kernel
theorem d18_4 : decode jdk_52_method_15_code 4 = .ok (.bipush 31, 2) := by decide +kernel
theorem d18_6 : decode jdk_52_method_15_code 6 = .ok (.iushr, 1) := by decide +kernel
theorem d18_7 : decode jdk_52_method_15_code 7 = .ok (.i2b, 1) := by decide +kernel
theorem d18_8 : decode jdk_52_method_15_code 8 = .ok (.ireturn, 1) := by decide +kernel
set_option maxRecDepth 65536 in
set_option maxHeartbeats 40000000 in
theorem n_cfl_1_2 (l : Launch) (Z : State) (a0 : Array Value) (hw : ∀ d ∈ tables_1, d.before a0 Z = true) (hEL : EW Z a0 []) (a1 : Addr) (kb : ClassId) (c0 : Int32) (h0 : Heap) (n0 : Nat) (PA : Arv Z h0 a1 kb .byte (2 : Int32) [(.int (StrChars.lo8 c0)), (.int (StrChars.hi8 c0))] (.int (0 : Int32))) :
    Met false Z [] l (⟨"java/lang/StringUTF16", "coderFromArrayLen", "([BI)B"⟩ : MethodName) jdk_52_method_15_code 2 (some .byte) ({ frames := 0, cells := 0, slots := 0, locals := 0 } : Room) #[(.ref a1), (.int (1 : Int32))] h0 [] n0 (fun v h => v = some (.int (1 : Int32)) ∧ h0 = h) := by
  refine Met.of (a0 := a0) (Ls := #[.val (.ref a1), .val (.int (1 : Int32))]) (fun z => rfl) (plainFor_of_name pn_java_lang_StringUTF16) hEL (fun m => by first | (simp [entryFrame, mkF, argsToLocals, Value.category]; done) | rfl) ?_
  intro p e s m below meth c B hSf
  refine gs (mkF m 1 _ [(.int (1 : Int32))]) (fun T A t k => XS.iloadN A B.x rfl (B.d d18_0) rfl k) ?_
  refine gs (mkF m 2 _ [(.ref a1), (.int (1 : Int32))]) (fun T A t k => XS.aloadN A B.x rfl (B.d d18_1) rfl rfl k) ?_
  refine g_len B PA d18_2 (q := 3) rfl ?_
  refine gs (mkF m 4 _ [(.int (-1 : Int32))]) (fun T A t k => XS.isub A B.x rfl (B.d d18_3) rfl k) ?_
  refine gs (mkF m 6 _ [(.int (31 : Int32)), (.int (-1 : Int32))]) (fun T A t k => XS.bipush A B.x rfl (B.d d18_4) k) ?_
  refine gs (mkF m 7 _ [(.int (1 : Int32))]) (fun T A t k => XS.iushr A B.x rfl (B.d d18_6) rfl k) ?_
  refine gs (mkF m 8 _ [(.int (1 : Int32))]) (fun T A t k => XS.i2b A B.x rfl (B.d d18_7) rfl k) ?_
  exact g_retN (t := .byte) B (by simp) d18_8 (by decide) (by decide) ⟨rfl, rfl⟩
theorem pd_285bBI29B : parseMethodDescriptor "([BI)B" = some ⟨[(.array .byte), .int], some .byte⟩ := by decide +kernel
theorem d3_45 : decode jdk_42_method_149_code 45 = .ok (.invokestatic 47, 3) := by decide +kernel
theorem d3_48 : decode jdk_42_method_149_code 48 = .ok (.putfield 15, 3) := by decide +kernel
theorem d3_51 : decode jdk_42_method_149_code 51 = .ok (.aload_n 0, 1) := by decide +kernel
theorem d3_52 : decode jdk_42_method_149_code 52 = .ok (.aload 5, 2) := by decide +kernel
theorem d3_54 : decode jdk_42_method_149_code 54 = .ok (.putfield 9, 3) := by decide +kernel
theorem d3_57 : decode jdk_42_method_149_code 57 = .ok (.return_, 1) := by decide +kernel
theorem d17_26 : decode jdk_52_method_21_code 26 = .ok (.aload_n 2, 1) := by decide +kernel
theorem d17_27 : decode jdk_52_method_21_code 27 = .ok (.iload_n 3, 1) := by decide +kernel
theorem d17_28 : decode jdk_52_method_21_code 28 = .ok (.iload 6, 2) := by decide +kernel
theorem d17_30 : decode jdk_52_method_21_code 30 = .ok (.i2b, 1) := by decide +kernel
theorem d17_31 : decode jdk_52_method_21_code 31 = .ok (.bastore, 1) := by decide +kernel
theorem d17_32 : decode jdk_52_method_21_code 32 = .ok (.iinc 1 1, 3) := by decide +kernel
theorem d17_35 : decode jdk_52_method_21_code 35 = .ok (.iinc 3 1, 3) := by decide +kernel
theorem d17_38 : decode jdk_52_method_21_code 38 = .ok (.iinc 5 1, 3) := by decide +kernel
theorem d17_41 : decode jdk_52_method_21_code 41 = .ok (.goto (-38), 3) := by decide +kernel
theorem d17_44 : decode jdk_52_method_21_code 44 = .ok (.iload 4, 2) := by decide +kernel
theorem d17_46 : decode jdk_52_method_21_code 46 = .ok (.ireturn, 1) := by decide +kernel
set_option maxRecDepth 65536 in
set_option maxHeartbeats 40000000 in
theorem n_comp5_1_1 (l : Launch) (Z : State) (a0 : Array Value) (hw : ∀ d ∈ tables_1, d.before a0 Z = true) (hEL : EW Z a0 []) (a1 : Addr) (a2 : Addr) (kc kb : ClassId) (c0 : Int32) (h0 : Heap) (n0 : Nat) (PA : Arv Z h0 a1 kc .char (1 : Int32) [(.int c0)] (.int (0 : Int32))) (PB : Arv Z h0 a2 kb .byte (1 : Int32) [(.int (0 : Int32))] (.int (0 : Int32))) (hd : @LE.le Nat _ n0 a2) (hne : @Ne Nat a1 a2) (hl0 : ¬ (255 : Int32) < c0) :
    Met false Z [] l (⟨"java/lang/StringUTF16", "compress", "([CI[BII)I"⟩ : MethodName) jdk_52_method_21_code 7 (some .int) ({ frames := 0, cells := 0, slots := 0, locals := 0 } : Room) #[(.ref a1), (.int (0 : Int32)), (.ref a2), (.int (0 : Int32)), (.int (1 : Int32))] h0 [] n0 (fun v h => v = some (.int (1 : Int32)) ∧ Keep h0 h [a2] ∧ Arv Z h a2 kb .byte (1 : Int32) [(.int (StrChars.lo8 c0))] (.int (0 : Int32))) := by
  refine Met.of (a0 := a0) (Ls := #[.val (.ref a1), .val (.int (0 : Int32)), .val (.ref a2), .val (.int (0 : Int32)), .val (.int (1 : Int32)), .unset, .unset]) (fun z => rfl) (plainFor_of_name pn_java_lang_StringUTF16) hEL (fun m => by first | (simp [entryFrame, mkF, argsToLocals, Value.category]; done) | rfl) ?_
  intro p e s m below meth c B hSf
  refine gs (mkF m 1 _ [(.int (0 : Int32))]) (fun T A t k => XS.iconst A B.x rfl (B.d d17_0) k) ?_
  refine gs (mkF m 3 #[.val (.ref a1), .val (.int (0 : Int32)), .val (.ref a2), .val (.int (0 : Int32)), .val (.int (1 : Int32)), .val (.int (0 : Int32)), .unset] []) (fun T A t k => XS.istore A B.x rfl (B.d d17_1) rfl (l' := #[.val (.ref a1), .val (.int (0 : Int32)), .val (.ref a2), .val (.int (0 : Int32)), .val (.int (1 : Int32)), .val (.int (0 : Int32)), .unset]) rfl k) ?_
  refine gs (mkF m 5 _ [(.int (0 : Int32))]) (fun T A t k => XS.iload A B.x rfl (B.d d17_3) rfl k) ?_
  refine gs (mkF m 7 _ [(.int (1 : Int32)), (.int (0 : Int32))]) (fun T A t k => XS.iload A B.x rfl (B.d d17_5) rfl k) ?_
  refine gs (mkF m 10 _ []) (fun T A t k => XS.icmpNo A B.x rfl (B.d d17_7) rfl (tlt (by decide : (0 : Int32) < (1 : Int32))).2.1 k) ?_
  refine gs (mkF m 11 _ [(.ref a1)]) (fun T A t k => XS.aloadN A B.x rfl (B.d d17_10) rfl rfl k) ?_
  refine gs (mkF m 12 _ [(.int (0 : Int32)), (.ref a1)]) (fun T A t k => XS.iloadN A B.x rfl (B.d d17_11) rfl k) ?_
  refine g_ldC B PA ⟨by decide, by decide⟩ (v := (.int c0)) rfl d17_12 (q := 13) rfl ?_
  refine gs (mkF m 15 #[.val (.ref a1), .val (.int (0 : Int32)), .val (.ref a2), .val (.int (0 : Int32)), .val (.int (1 : Int32)), .val (.int (0 : Int32)), .val (.int c0)] []) (fun T A t k => XS.istore A B.x rfl (B.d d17_13) rfl (l' := #[.val (.ref a1), .val (.int (0 : Int32)), .val (.ref a2), .val (.int (0 : Int32)), .val (.int (1 : Int32)), .val (.int (0 : Int32)), .val (.int c0)]) rfl k) ?_
  refine gs (mkF m 17 _ [(.int c0)]) (fun T A t k => XS.iload A B.x rfl (B.d d17_15) rfl k) ?_
  refine gs (mkF m 20 _ [(.int (255 : Int32)), (.int c0)]) (fun T A t k => XS.sipush A B.x rfl (B.d d17_17) k) ?_
  refine gs (mkF m 26 _ []) (fun T A t k => XS.icmpYes A B.x rfl (pc0 := 20) (pc' := 26) rfl (B.d d17_20) rfl (flt (hl0 : ¬ ((255 : Int32) < c0))).2.2.2 (by decide) (by decide) k) ?_
  refine gs (mkF m 27 _ [(.ref a2)]) (fun T A t k => XS.aloadN A B.x rfl (B.d d17_26) rfl rfl k) ?_
  refine gs (mkF m 28 _ [(.int (0 : Int32)), (.ref a2)]) (fun T A t k => XS.iloadN A B.x rfl (B.d d17_27) rfl k) ?_
  refine gs (mkF m 30 _ [(.int c0), (.int (0 : Int32)), (.ref a2)]) (fun T A t k => XS.iload A B.x rfl (B.d d17_28) rfl k) ?_
  refine gs (mkF m 31 _ [(.int (c0.toInt8.toInt32)), (.int (0 : Int32)), (.ref a2)]) (fun T A t k => XS.i2b A B.x rfl (B.d d17_30) rfl k) ?_
  refine g_stB B PB (x' := (StrChars.lo8 c0)) (nb8 _) ⟨by decide, by decide⟩ (i := 0) rfl (Nat.le_of_ble_eq_true rfl) d17_31 nos (by omega) (q := 32) rfl ?_
  intro h21 W21 A21
  have z21 := W21.size
  have V21 : Arv Z h21 a2 kb .byte (1 : Int32) [(.int (StrChars.lo8 c0))] (.int (0 : Int32)) := A21
  refine gs (mkF m 35 #[.val (.ref a1), .val (.int (1 : Int32)), .val (.ref a2), .val (.int (0 : Int32)), .val (.int (1 : Int32)), .val (.int (0 : Int32)), .val (.int c0)] []) (fun T A t k => XS.iinc A B.x rfl (B.d d17_32) rfl (l' := #[.val (.ref a1), .val (.int (1 : Int32)), .val (.ref a2), .val (.int (0 : Int32)), .val (.int (1 : Int32)), .val (.int (0 : Int32)), .val (.int c0)]) rfl k) ?_
  refine gs (mkF m 38 #[.val (.ref a1), .val (.int (1 : Int32)), .val (.ref a2), .val (.int (1 : Int32)), .val (.int (1 : Int32)), .val (.int (0 : Int32)), .val (.int c0)] []) (fun T A t k => XS.iinc A B.x rfl (B.d d17_35) rfl (l' := #[.val (.ref a1), .val (.int (1 : Int32)), .val (.ref a2), .val (.int (1 : Int32)), .val (.int (1 : Int32)), .val (.int (0 : Int32)), .val (.int c0)]) rfl k) ?_
  refine gs (mkF m 41 #[.val (.ref a1), .val (.int (1 : Int32)), .val (.ref a2), .val (.int (1 : Int32)), .val (.int (1 : Int32)), .val (.int (1 : Int32)), .val (.int c0)] []) (fun T A t k => XS.iinc A B.x rfl (B.d d17_38) rfl (l' := #[.val (.ref a1), .val (.int (1 : Int32)), .val (.ref a2), .val (.int (1 : Int32)), .val (.int (1 : Int32)), .val (.int (1 : Int32)), .val (.int c0)]) rfl k) ?_
  refine gs (mkF m 3 _ []) (fun T A t k => XS.goto A B.x rfl (pc0 := 41) (pc' := 3) rfl (B.d d17_41) (by decide) (by decide) k) ?_
  refine gs (mkF m 5 _ [(.int (1 : Int32))]) (fun T A t k => XS.iload A B.x rfl (B.d d17_3) rfl k) ?_
  refine gs (mkF m 7 _ [(.int (1 : Int32)), (.int (1 : Int32))]) (fun T A t k => XS.iload A B.x rfl (B.d d17_5) rfl k) ?_
  refine gs (mkF m 44 _ []) (fun T A t k => XS.icmpYes A B.x rfl (pc0 := 7) (pc' := 44) rfl (B.d d17_7) rfl (flt (by decide : ¬ ((1 : Int32) < (1 : Int32)))).2.1 (by decide) (by decide) k) ?_
  refine gs (mkF m 46 _ [(.int (1 : Int32))]) (fun T A t k => XS.iload A B.x rfl (B.d d17_44) rfl k) ?_
  exact g_retI B d17_46 (by decide) (by decide) ⟨rfl, ((Keep.refl h0 [a2]).wr W21 (Or.inl (by simp))), V21⟩
theorem d16_57 : decode jdk_52_method_16_code 57 = .ok (.aload_n 3, 1) := by decide +kernel
theorem d16_58 : decode jdk_52_method_16_code 58 = .ok (.areturn, 1) := by decide +kernel
set_option maxRecDepth 65536 in
set_option maxHeartbeats 40000000 in
theorem n_comp3_1_1 (l : Launch) (Z : State) (a0 : Array Value) (hw : ∀ d ∈ tables_1, d.before a0 Z = true) (hEL : EW Z a0 []) (a1 : Addr) (zc : Int32) (rv : Value) (kc : ClassId) (c0 : Int32) (h0 : Heap) (n0 : Nat) (PA : Arv Z h0 a1 kc .char (1 : Int32) [(.int c0)] (.int (0 : Int32))) (hn : @LE.le Nat _ n0 h0.size) (ha : @LT.lt Nat _ a1 h0.size) (hr0 : rng c0) (hl0 : ¬ (255 : Int32) < c0) (PX : Sts Z zc rv) (PO : Old Z n0 h0) :
    Met false Z [] l (⟨"java/lang/StringUTF16", "compress", "([CII)[B"⟩ : MethodName) jdk_52_method_16_code 6 (some (.array .byte)) ({ frames := 1, cells := 1, slots := 1, locals := 18 } : Room) #[(.ref a1), (.int (0 : Int32)), (.int (1 : Int32))] h0 [] n0 (fun v h => ∃ (x : Addr) (kb : ClassId), v = some (.ref x) ∧ Keep h0 h [] ∧ @LE.le Nat _ h0.size x ∧ Arv Z h x kb .byte (1 : Int32) [(.int (StrChars.lo8 c0))] (.int (0 : Int32))) := by
  refine Met.of (a0 := a0) (Ls := #[.val (.ref a1), .val (.int (0 : Int32)), .val (.int (1 : Int32)), .unset, .unset, .unset]) (fun z => rfl) (plainFor_of_name pn_java_lang_StringUTF16) hEL (fun m => by first | (simp [entryFrame, mkF, argsToLocals, Value.category]; done) | rfl) ?_
  intro p e s m below meth c B hSf
  obtain ⟨SC, hzc, SA, SH, SL, SF, rf⟩ := id PX
  refine gs (mkF m 1 _ [(.int (1 : Int32))]) (fun T A t k => XS.iloadN A B.x rfl (B.d d16_0) rfl k) ?_
  refine g_newP B (hw _ (List.mem_of_getElem? (i := 20) rfl)) d16_1 (by decide) (cap := 1) (by decide) (by decide) (by decide) (by decide) (q := 3) rfl ?_
  intro h21 b21 k21 g21 E21 S21 A21
  have z21 := E21.1; have y21 : @LT.lt Nat _ b21 h21.size := A21.lt
  have V21 : Arv Z h21 b21 k21 .byte (1 : Int32) [(.int (0 : Int32))] (.int (0 : Int32)) := A21
  refine gs (mkF m 4 #[.val (.ref a1), .val (.int (0 : Int32)), .val (.int (1 : Int32)), .val (.ref b21), .unset, .unset] []) (fun T A t k => XS.astoreN A B.x rfl (B.d d16_3) rfl rfl (l' := #[.val (.ref a1), .val (.int (0 : Int32)), .val (.int (1 : Int32)), .val (.ref b21), .unset, .unset]) rfl k) ?_
  refine gs (mkF m 5 _ [(.ref a1)]) (fun T A t k => XS.aloadN A B.x rfl (B.d d16_4) rfl rfl k) ?_
  refine gs (mkF m 6 _ [(.int (0 : Int32)), (.ref a1)]) (fun T A t k => XS.iloadN A B.x rfl (B.d d16_5) rfl k) ?_
  refine gs (mkF m 7 _ [(.ref b21), (.int (0 : Int32)), (.ref a1)]) (fun T A t k => XS.aloadN A B.x rfl (B.d d16_6) rfl rfl k) ?_
  refine gs (mkF m 8 _ [(.int (0 : Int32)), (.ref b21), (.int (0 : Int32)), (.ref a1)]) (fun T A t k => XS.iconst A B.x rfl (B.d d16_7) k) ?_
  refine gs (mkF m 9 _ [(.int (1 : Int32)), (.int (0 : Int32)), (.ref b21), (.int (0 : Int32)), (.ref a1)]) (fun T A t k => XS.iloadN A B.x rfl (B.d d16_8) rfl k) ?_
  refine g_metN (c_static B (hw _ (List.mem_of_getElem? (i := 78) rfl)) (hw _ (List.mem_of_getElem? (i := 79) rfl)) (hw _ (List.mem_of_getElem? (i := 76) rfl)) (hw _ (List.mem_of_getElem? (i := 80) rfl)) (by decide) rfl (lenOf pd_285bCI5bBII29I rfl) rfl (Nat.le_of_eq rfl) d16_9 rfl (argsL := [(.ref a1), (.int (0 : Int32)), (.ref b21), (.int (0 : Int32)), (.int (1 : Int32))]) (rest := []) (W := 0) (q := 12)) (n_comp5_1_1 l Z a0 hw hEL a1 b21 kc k21 c0 h21 n0 (PA.ext E21) V21 (by omega) (by omega) hl0) (hw _ (List.mem_of_getElem? (i := 80) rfl)) (hw _ (List.mem_of_getElem? (i := 76) rfl)) (by decide) (by decide) (by decide) (by decide) ?_
  intro v22 h22 hz22 hQ22
  obtain ⟨rfl, K22, V22⟩ := hQ22
  have z22 := K22.1
  refine gs (mkF m 14 #[.val (.ref a1), .val (.int (0 : Int32)), .val (.int (1 : Int32)), .val (.ref b21), .val (.int (1 : Int32)), .unset] []) (fun T A t k => XS.istore A B.x rfl (B.d d16_12) rfl (l' := #[.val (.ref a1), .val (.int (0 : Int32)), .val (.int (1 : Int32)), .val (.ref b21), .val (.int (1 : Int32)), .unset]) rfl k) ?_
  refine gs (mkF m 16 _ [(.int (1 : Int32))]) (fun T A t k => XS.iload A B.x rfl (B.d d16_14) rfl k) ?_
  refine gs (mkF m 17 _ [(.int (1 : Int32)), (.int (1 : Int32))]) (fun T A t k => XS.iloadN A B.x rfl (B.d d16_16) rfl k) ?_
  refine gs (mkF m 57 _ []) (fun T A t k => XS.icmpYes A B.x rfl (pc0 := 17) (pc' := 57) rfl (B.d d16_17) rfl (teq (by decide : (1 : Int32) = (1 : Int32))).1 (by decide) (by decide) k) ?_
  refine gs (mkF m 58 _ [(.ref b21)]) (fun T A t k => XS.aloadN A B.x rfl (B.d d16_57) rfl rfl k) ?_
  exact g_retA B rfl rfl d16_58 (by decide) (by decide) ⟨_, _, rfl, (((Keep.refl h0 []).ext E21).trans K22 (allS (Or.inr (by omega)) all0)), (by omega), V22⟩
set_option maxRecDepth 65536 in
set_option maxHeartbeats 40000000 in
theorem n_cfl_1_1 (l : Launch) (Z : State) (a0 : Array Value) (hw : ∀ d ∈ tables_1, d.before a0 Z = true) (hEL : EW Z a0 []) (a1 : Addr) (kb : ClassId) (c0 : Int32) (h0 : Heap) (n0 : Nat) (PA : Arv Z h0 a1 kb .byte (1 : Int32) [(.int (StrChars.lo8 c0))] (.int (0 : Int32))) :
    Met false Z [] l (⟨"java/lang/StringUTF16", "coderFromArrayLen", "([BI)B"⟩ : MethodName) jdk_52_method_15_code 2 (some .byte) ({ frames := 0, cells := 0, slots := 0, locals := 0 } : Room) #[(.ref a1), (.int (1 : Int32))] h0 [] n0 (fun v h => v = some (.int (0 : Int32)) ∧ h0 = h) := by
  refine Met.of (a0 := a0) (Ls := #[.val (.ref a1), .val (.int (1 : Int32))]) (fun z => rfl) (plainFor_of_name pn_java_lang_StringUTF16) hEL (fun m => by first | (simp [entryFrame, mkF, argsToLocals, Value.category]; done) | rfl) ?_
  intro p e s m below meth c B hSf
  refine gs (mkF m 1 _ [(.int (1 : Int32))]) (fun T A t k => XS.iloadN A B.x rfl (B.d d18_0) rfl k) ?_
  refine gs (mkF m 2 _ [(.ref a1), (.int (1 : Int32))]) (fun T A t k => XS.aloadN A B.x rfl (B.d d18_1) rfl rfl k) ?_
  refine g_len B PA d18_2 (q := 3) rfl ?_
  refine gs (mkF m 4 _ [(.int (0 : Int32))]) (fun T A t k => XS.isub A B.x rfl (B.d d18_3) rfl k) ?_
  refine gs (mkF m 6 _ [(.int (31 : Int32)), (.int (0 : Int32))]) (fun T A t k => XS.bipush A B.x rfl (B.d d18_4) k) ?_
  refine gs (mkF m 7 _ [(.int (0 : Int32))]) (fun T A t k => XS.iushr A B.x rfl (B.d d18_6) rfl k) ?_
  refine gs (mkF m 8 _ [(.int (0 : Int32))]) (fun T A t k => XS.i2b A B.x rfl (B.d d18_7) rfl k) ?_
  exact g_retN (t := .byte) B (by simp) d18_8 (by decide) (by decide) ⟨rfl, rfl⟩
set_option maxRecDepth 65536 in
set_option maxHeartbeats 40000000 in
theorem n_init4_1 (l : Launch) (Z : State) (a0 : Array Value) (hw : ∀ d ∈ tables_1, d.before a0 Z = true) (hEL : EW Z a0 []) (a1 : Addr) (a2 : Addr) (zc : Int32) (rv : Value) (kc : ClassId) (c0 : Int32) (h0 : Heap) (n0 : Nat) (PE : Exa Z h0 a1 "java/lang/String") (PV : Fld Z h0 a1 "java/lang/String" "value" "[B" .null) (PC : Fld Z h0 a1 "java/lang/String" "coder" "B" (.int (0 : Int32))) (PA : Arv Z h0 a2 kc .char (1 : Int32) [(.int c0)] (.int (0 : Int32))) (hn : @LE.le Nat _ n0 h0.size) (hd : @LE.le Nat _ n0 a1) (ha : @LT.lt Nat _ a2 h0.size) (hr0 : rng c0) (PX : Sts Z zc rv) (PO : Old Z n0 h0) :
    Met false Z [] l (⟨"java/lang/String", "<init>", "([CIILjava/lang/Void;)V"⟩ : MethodName) jdk_42_method_149_code 6 none ({ frames := 4, cells := 2, slots := 3, locals := 57 } : Room) #[(.ref a1), (.ref a2), (.int (0 : Int32)), (.int (1 : Int32)), .null] h0 [] n0 (fun v h => v = none ∧ Keep h0 h [a1] ∧ ∃ t : Addr, @LE.le Nat _ h0.size t ∧ Str Z h a1 t [c0]) := by
  refine Met.of (a0 := a0) (Ls := #[.val (.ref a1), .val (.ref a2), .val (.int (0 : Int32)), .val (.int (1 : Int32)), .val .null, .unset]) (fun z => rfl) (plainFor_of_name pn_java_lang_String) hEL (fun m => by first | (simp [entryFrame, mkF, argsToLocals, Value.category]; done) | rfl) ?_
  intro p e s m below meth c B hSf
  obtain ⟨SC, hzc, SA, SH, SL, SF, rf⟩ := id PX
  have hlt1 : @LT.lt Nat _ a1 h0.size := PE.lt
  refine gs (mkF m 1 _ [(.ref a1)]) (fun T A t k => XS.aloadN A B.x rfl (B.d d3_0) rfl rfl k) ?_
  refine g_initO B (hw _ (List.mem_of_getElem? (i := 16) rfl)) (hw _ (List.mem_of_getElem? (i := 17) rfl)) (hw _ (List.mem_of_getElem? (i := 18) rfl)) rfl d3_1 (by decide) (W := 0) (Nat.le_of_eq rfl) (by decide) (q := 4) rfl ?_
  refine gs (mkF m 5 _ [(.int (1 : Int32))]) (fun T A t k => XS.iloadN A B.x rfl (B.d d3_4) rfl k) ?_
  refine gs (mkF m 27 _ []) (fun T A t k => XS.ifYes A B.x rfl (pc0 := 5) (pc' := 27) rfl (B.d d3_5) rfl ((if0 _ _).trans (feq (by decide : ¬ ((1 : Int32) = (0 : Int32)))).2) (by decide) (by decide) k) ?_
  refine g_getS B (hw _ (List.mem_of_getElem? (i := 46) rfl)) (SC.ext PO.2) d3_27 (q := 30) rfl ?_
  refine gs (mkF m 33 _ []) (fun T A t k => XS.ifNo A B.x rfl (B.d d3_30) rfl ((if0 _ _).trans (feq (hzc : ¬ (zc = (0 : Int32)))).1) k) ?_
  refine gs (mkF m 34 _ [(.ref a2)]) (fun T A t k => XS.aloadN A B.x rfl (B.d d3_33) rfl rfl k) ?_
  refine gs (mkF m 35 _ [(.int (0 : Int32)), (.ref a2)]) (fun T A t k => XS.iloadN A B.x rfl (B.d d3_34) rfl k) ?_
  refine gs (mkF m 36 _ [(.int (1 : Int32)), (.int (0 : Int32)), (.ref a2)]) (fun T A t k => XS.iloadN A B.x rfl (B.d d3_35) rfl k) ?_
  by_cases hl0 : (255 : Int32) < c0
  · have hg := hl0
    refine g_metN (c_static B (hw _ (List.mem_of_getElem? (i := 74) rfl)) (hw _ (List.mem_of_getElem? (i := 75) rfl)) (hw _ (List.mem_of_getElem? (i := 76) rfl)) (hw _ (List.mem_of_getElem? (i := 77) rfl)) (by decide) rfl (lenOf pd_285bCII295bB rfl) rfl (Nat.le_of_eq rfl) d3_36 rfl (argsL := [(.ref a2), (.int (0 : Int32)), (.int (1 : Int32))]) (rest := []) (W := 0) (q := 39)) (n_comp3_1_0 l Z a0 hw hEL a2 zc rv kc c0 h0 n0 PA (by omega) (by omega) hr0  hg PX PO) (hw _ (List.mem_of_getElem? (i := 77) rfl)) (hw _ (List.mem_of_getElem? (i := 76) rfl)) (by decide) (by decide) (by decide) (by decide) ?_
    intro v21 h21 hz21 hQ21
    obtain ⟨x21, k21, rfl, K21, g21, V21⟩ := hQ21
    have z21 := K21.1; have y21 : @LT.lt Nat _ x21 h21.size := V21.lt
    refine gs (mkF m 41 #[.val (.ref a1), .val (.ref a2), .val (.int (0 : Int32)), .val (.int (1 : Int32)), .val .null, .val (.ref x21)] []) (fun T A t k => XS.astore A B.x rfl (B.d d3_39) rfl rfl (l' := #[.val (.ref a1), .val (.ref a2), .val (.int (0 : Int32)), .val (.int (1 : Int32)), .val .null, .val (.ref x21)]) rfl k) ?_
    refine gs (mkF m 42 _ [(.ref a1)]) (fun T A t k => XS.aloadN A B.x rfl (B.d d3_41) rfl rfl k) ?_
    refine gs (mkF m 44 _ [(.ref x21), (.ref a1)]) (fun T A t k => XS.aload A B.x rfl (B.d d3_42) rfl rfl k) ?_
    refine gs (mkF m 45 _ [(.int (1 : Int32)), (.ref x21), (.ref a1)]) (fun T A t k => XS.iloadN A B.x rfl (B.d d3_44) rfl k) ?_
    refine g_metN (c_static B (hw _ (List.mem_of_getElem? (i := 81) rfl)) (hw _ (List.mem_of_getElem? (i := 82) rfl)) (hw _ (List.mem_of_getElem? (i := 76) rfl)) (hw _ (List.mem_of_getElem? (i := 83) rfl)) (by decide) rfl (lenOf pd_285bBI29B rfl) rfl (Nat.le_of_eq rfl) d3_45 rfl (argsL := [(.ref x21), (.int (1 : Int32))]) (rest := [(.ref a1)]) (W := 1) (q := 48)) (n_cfl_1_2 l Z a0 hw hEL x21 k21 c0 h21 n0 V21) (hw _ (List.mem_of_getElem? (i := 83) rfl)) (hw _ (List.mem_of_getElem? (i := 76) rfl)) (by decide) (by decide) (by decide) (by decide) ?_
    intro v22 h22 hz22 hQ22
    obtain ⟨rfl, rfl⟩ := hQ22
    refine g_putFN B (hw _ (List.mem_of_getElem? (i := 26) rfl)) Via.refl (PC.keep K21 nin0) (PE.keep K21) (Or.inr ⟨(hw _ (List.mem_of_getElem? (i := 22) rfl)), rfl, rfl⟩) (hw _ (List.mem_of_getElem? (i := 6) rfl)) (ty := .byte) (v' := (.int (1 : Int32))) (by decide) rfl rfl d3_48 nos (by omega) (q := 51) rfl ?_
    intro h23 W23 F23
    have z23 := W23.size
    refine gs (mkF m 52 _ [(.ref a1)]) (fun T A t k => XS.aloadN A B.x rfl (B.d d3_51) rfl rfl k) ?_
    refine gs (mkF m 54 _ [(.ref x21), (.ref a1)]) (fun T A t k => XS.aload A B.x rfl (B.d d3_52) rfl rfl k) ?_
    refine g_putF B (hw _ (List.mem_of_getElem? (i := 25) rfl)) Via.refl ((PV.keep K21 nin0).other W23 (Or.inr (slot_ne (Or.inr (hw _ (List.mem_of_getElem? (i := 21) rfl))) (Or.inr (hw _ (List.mem_of_getElem? (i := 22) rfl))) (by decide) (t := (.array .byte)) (t' := .byte) (by decide) (by decide)))) ((PE.keep K21).wr W23) (Or.inr ⟨(hw _ (List.mem_of_getElem? (i := 21) rfl)), rfl, rfl⟩) (hw _ (List.mem_of_getElem? (i := 6) rfl)) (ty := (.array .byte)) (by decide) rfl rfl d3_54 nos (by omega) (q := 57) rfl ?_
    intro h24 W24 F24
    have z24 := W24.size
    exact g_ret0 B d3_57 (by decide) (by decide) ⟨rfl, ((((Keep.refl h0 [a1]).trans K21 all0).wr W23 (Or.inl (by simp))).wr W24 (Or.inl (by simp))), _, (by omega), (Str.wide (((PE.keep K21).wr W23).wr W24) F24 (F23.other W24 (Or.inr (slot_ne (Or.inr (hw _ (List.mem_of_getElem? (i := 22) rfl))) (Or.inr (hw _ (List.mem_of_getElem? (i := 21) rfl))) (by decide) (t := .byte) (t' := (.array .byte)) (by decide) (by decide)))) ((V21.other W23 (by omega : @Ne Nat x21 a1)).other W24 (by omega : @Ne Nat x21 a1)) rfl rfl ⟨c0, by simp, hg⟩ (by simp only [List.mem_cons, List.not_mem_nil, or_false]; rintro c hc; rcases hc with rfl <;> assumption) (by simp))⟩
  · refine g_metN (c_static B (hw _ (List.mem_of_getElem? (i := 74) rfl)) (hw _ (List.mem_of_getElem? (i := 75) rfl)) (hw _ (List.mem_of_getElem? (i := 76) rfl)) (hw _ (List.mem_of_getElem? (i := 77) rfl)) (by decide) rfl (lenOf pd_285bCII295bB rfl) rfl (Nat.le_of_eq rfl) d3_36 rfl (argsL := [(.ref a2), (.int (0 : Int32)), (.int (1 : Int32))]) (rest := []) (W := 0) (q := 39)) (n_comp3_1_1 l Z a0 hw hEL a2 zc rv kc c0 h0 n0 PA (by omega) (by omega) hr0 hl0 PX PO) (hw _ (List.mem_of_getElem? (i := 77) rfl)) (hw _ (List.mem_of_getElem? (i := 76) rfl)) (by decide) (by decide) (by decide) (by decide) ?_
    intro v25 h25 hz25 hQ25
    obtain ⟨x25, k25, rfl, K25, g25, V25⟩ := hQ25
    have z25 := K25.1; have y25 : @LT.lt Nat _ x25 h25.size := V25.lt
    refine gs (mkF m 41 #[.val (.ref a1), .val (.ref a2), .val (.int (0 : Int32)), .val (.int (1 : Int32)), .val .null, .val (.ref x25)] []) (fun T A t k => XS.astore A B.x rfl (B.d d3_39) rfl rfl (l' := #[.val (.ref a1), .val (.ref a2), .val (.int (0 : Int32)), .val (.int (1 : Int32)), .val .null, .val (.ref x25)]) rfl k) ?_
    refine gs (mkF m 42 _ [(.ref a1)]) (fun T A t k => XS.aloadN A B.x rfl (B.d d3_41) rfl rfl k) ?_
    refine gs (mkF m 44 _ [(.ref x25), (.ref a1)]) (fun T A t k => XS.aload A B.x rfl (B.d d3_42) rfl rfl k) ?_
    refine gs (mkF m 45 _ [(.int (1 : Int32)), (.ref x25), (.ref a1)]) (fun T A t k => XS.iloadN A B.x rfl (B.d d3_44) rfl k) ?_
    refine g_metN (c_static B (hw _ (List.mem_of_getElem? (i := 81) rfl)) (hw _ (List.mem_of_getElem? (i := 82) rfl)) (hw _ (List.mem_of_getElem? (i := 76) rfl)) (hw _ (List.mem_of_getElem? (i := 83) rfl)) (by decide) rfl (lenOf pd_285bBI29B rfl) rfl (Nat.le_of_eq rfl) d3_45 rfl (argsL := [(.ref x25), (.int (1 : Int32))]) (rest := [(.ref a1)]) (W := 1) (q := 48)) (n_cfl_1_1 l Z a0 hw hEL x25 k25 c0 h25 n0 V25) (hw _ (List.mem_of_getElem? (i := 83) rfl)) (hw _ (List.mem_of_getElem? (i := 76) rfl)) (by decide) (by decide) (by decide) (by decide) ?_
    intro v26 h26 hz26 hQ26
    obtain ⟨rfl, rfl⟩ := hQ26
    refine g_putFN B (hw _ (List.mem_of_getElem? (i := 26) rfl)) Via.refl (PC.keep K25 nin0) (PE.keep K25) (Or.inr ⟨(hw _ (List.mem_of_getElem? (i := 22) rfl)), rfl, rfl⟩) (hw _ (List.mem_of_getElem? (i := 6) rfl)) (ty := .byte) (v' := (.int (0 : Int32))) (by decide) rfl rfl d3_48 nos (by omega) (q := 51) rfl ?_
    intro h27 W27 F27
    have z27 := W27.size
    refine gs (mkF m 52 _ [(.ref a1)]) (fun T A t k => XS.aloadN A B.x rfl (B.d d3_51) rfl rfl k) ?_
    refine gs (mkF m 54 _ [(.ref x25), (.ref a1)]) (fun T A t k => XS.aload A B.x rfl (B.d d3_52) rfl rfl k) ?_
    refine g_putF B (hw _ (List.mem_of_getElem? (i := 25) rfl)) Via.refl ((PV.keep K25 nin0).other W27 (Or.inr (slot_ne (Or.inr (hw _ (List.mem_of_getElem? (i := 21) rfl))) (Or.inr (hw _ (List.mem_of_getElem? (i := 22) rfl))) (by decide) (t := (.array .byte)) (t' := .byte) (by decide) (by decide)))) ((PE.keep K25).wr W27) (Or.inr ⟨(hw _ (List.mem_of_getElem? (i := 21) rfl)), rfl, rfl⟩) (hw _ (List.mem_of_getElem? (i := 6) rfl)) (ty := (.array .byte)) (by decide) rfl rfl d3_54 nos (by omega) (q := 57) rfl ?_
    intro h28 W28 F28
    have z28 := W28.size
    exact g_ret0 B d3_57 (by decide) (by decide) ⟨rfl, ((((Keep.refl h0 [a1]).trans K25 all0).wr W27 (Or.inl (by simp))).wr W28 (Or.inl (by simp))), _, (by omega), (Str.mk0 (((PE.keep K25).wr W27).wr W28) F28 (F27.other W28 (Or.inr (slot_ne (Or.inr (hw _ (List.mem_of_getElem? (i := 22) rfl))) (Or.inr (hw _ (List.mem_of_getElem? (i := 21) rfl))) (by decide) (t := .byte) (t' := (.array .byte)) (by decide) (by decide)))) ((V25.other W27 (by omega : @Ne Nat x25 a1)).other W28 (by omega : @Ne Nat x25 a1)) rfl rfl (by simp only [List.mem_cons, List.not_mem_nil, or_false]; rintro c hc; rcases hc with rfl <;> exact ⟨(by assumption : rng _).1, by assumption⟩) (by simp))⟩
set_option maxRecDepth 65536 in
set_option maxHeartbeats 40000000 in
theorem n_init1_1 (l : Launch) (Z : State) (a0 : Array Value) (hw : ∀ d ∈ tables_1, d.before a0 Z = true) (hEL : EW Z a0 []) (a1 : Addr) (a2 : Addr) (zc : Int32) (rv : Value) (kc : ClassId) (c0 : Int32) (h0 : Heap) (n0 : Nat) (PE : Exa Z h0 a1 "java/lang/String") (PV : Fld Z h0 a1 "java/lang/String" "value" "[B" .null) (PC : Fld Z h0 a1 "java/lang/String" "coder" "B" (.int (0 : Int32))) (PA : Arv Z h0 a2 kc .char (1 : Int32) [(.int c0)] (.int (0 : Int32))) (hn : @LE.le Nat _ n0 h0.size) (hd : @LE.le Nat _ n0 a1) (ha : @LT.lt Nat _ a2 h0.size) (hr0 : rng c0) (PX : Sts Z zc rv) (PO : Old Z n0 h0) :
    Met false Z [] l (⟨"java/lang/String", "<init>", "([C)V"⟩ : MethodName) jdk_42_method_3_code 2 none ({ frames := 5, cells := 2, slots := 3, locals := 74 } : Room) #[(.ref a1), (.ref a2)] h0 [] n0 (fun v h => v = none ∧ Keep h0 h [a1] ∧ ∃ t : Addr, @LE.le Nat _ h0.size t ∧ Str Z h a1 t [c0]) := by
  refine Met.of (a0 := a0) (Ls := #[.val (.ref a1), .val (.ref a2)]) (fun z => rfl) (plainFor_of_name pn_java_lang_String) hEL (fun m => by first | (simp [entryFrame, mkF, argsToLocals, Value.category]; done) | rfl) ?_
  intro p e s m below meth c B hSf
  obtain ⟨SC, hzc, SA, SH, SL, SF, rf⟩ := id PX
  have hlt1 : @LT.lt Nat _ a1 h0.size := PE.lt
  refine gs (mkF m 1 _ [(.ref a1)]) (fun T A t k => XS.aloadN A B.x rfl (B.d d2_0) rfl rfl k) ?_
  refine gs (mkF m 2 _ [(.ref a2), (.ref a1)]) (fun T A t k => XS.aloadN A B.x rfl (B.d d2_1) rfl rfl k) ?_
  refine gs (mkF m 3 _ [(.int (0 : Int32)), (.ref a2), (.ref a1)]) (fun T A t k => XS.iconst A B.x rfl (B.d d2_2) k) ?_
  refine gs (mkF m 4 _ [(.ref a2), (.int (0 : Int32)), (.ref a2), (.ref a1)]) (fun T A t k => XS.aloadN A B.x rfl (B.d d2_3) rfl rfl k) ?_
  refine g_len B PA d2_4 (q := 5) rfl ?_
  refine gs (mkF m 6 _ [.null, (.int (1 : Int32)), (.int (0 : Int32)), (.ref a2), (.ref a1)]) (fun T A t k => XS.aconstNull A B.x rfl (B.d d2_5) k) ?_
  refine g_metN (c_init B rfl (hw _ (List.mem_of_getElem? (i := 12) rfl)) (hw _ (List.mem_of_getElem? (i := 13) rfl)) (hw _ (List.mem_of_getElem? (i := 15) rfl)) (by decide) rfl (lenOf pd_285bCIILjava2flang2fVoid3b29V rfl) rfl (Nat.le_of_eq rfl) d2_6 rfl (argsL := [(.ref a2), (.int (0 : Int32)), (.int (1 : Int32)), .null]) (rest := []) (W := 0) (q := 9)) (n_init4_1 l Z a0 hw hEL a1 a2 zc rv kc c0 h0 n0 PE PV PC PA (by omega) (by omega) (by omega) hr0 PX PO) (hw _ (List.mem_of_getElem? (i := 15) rfl)) (hw _ (List.mem_of_getElem? (i := 7) rfl)) (by decide) (by decide) (by decide) (by decide) ?_
  intro v21 h21 hz21 hQ21
  obtain ⟨rfl, K9, t9, g9, X9⟩ := hQ21
  exact g_ret0 B d2_9 (by decide) (by decide) ⟨rfl, K9, t9, g9, X9⟩
theorem pd_28C29Z : parseMethodDescriptor "(C)Z" = some ⟨[.char], some .boolean⟩ := by decide +kernel
set_option maxRecDepth 65536 in
set_option maxHeartbeats 40000000 in
theorem n_length_1_0 (l : Launch) (Z : State) (a0 : Array Value) (hw : ∀ d ∈ tables_1, d.before a0 Z = true) (hEL : EW Z a0 []) (a1 : Addr) (zc : Int32) (rv : Value) (t : Addr) (kb : ClassId) (c0 : Int32) (h0 : Heap) (n0 : Nat) (PE : Exa Z h0 a1 "java/lang/String") (PC : Fld Z h0 a1 "java/lang/String" "coder" "B" (.int (0 : Int32))) (PV : Fld Z h0 a1 "java/lang/String" "value" "[B" (.ref t)) (PA : Arv Z h0 t kb .byte (1 : Int32) [(.int (StrChars.lo8 c0))] (.int (0 : Int32))) (PX : Sts Z zc rv) (PO : Old Z n0 h0) :
    Met false Z [] l (⟨"java/lang/String", "length", "()I"⟩ : MethodName) jdk_42_method_54_code 1 (some .int) ({ frames := 1, cells := 0, slots := 0, locals := 13 } : Room) #[(.ref a1)] h0 [] n0 (fun v h => v = some (.int (1 : Int32)) ∧ h0 = h) := by
  refine Met.of (a0 := a0) (Ls := #[.val (.ref a1)]) (fun z => rfl) (plainFor_of_name pn_java_lang_String) hEL (fun m => by first | (simp [entryFrame, mkF, argsToLocals, Value.category]; done) | rfl) ?_
  intro p e s m below meth c B hSf
  obtain ⟨SC, hzc, SA, SH, SL, SF, rf⟩ := id PX
  refine gs (mkF m 1 _ [(.ref a1)]) (fun T A t k => XS.aloadN A B.x rfl (B.d d9_0) rfl rfl k) ?_
  refine g_getF B (hw _ (List.mem_of_getElem? (i := 25) rfl)) Via.refl PV d9_1 (q := 4) rfl ?_
  refine g_len B PA d9_4 (q := 5) rfl ?_
  refine gs (mkF m 6 _ [(.ref a1), (.int (1 : Int32))]) (fun T A t k => XS.aloadN A B.x rfl (B.d d9_5) rfl rfl k) ?_
  refine g_metN (c_virt B PE (hw _ (List.mem_of_getElem? (i := 52) rfl)) (hw _ (List.mem_of_getElem? (i := 53) rfl)) (hw _ (List.mem_of_getElem? (i := 55) rfl)) (hw _ (List.mem_of_getElem? (i := 54) rfl)) (nfs (z := (⟨"java/lang/String", "coder", "()B"⟩ : MethodName)) (hw _ (List.mem_of_getElem? (i := 55) rfl))) (by decide) rfl (lenOf pd_2829B rfl) rfl (Nat.le_of_eq rfl) d9_6 rfl (argsL := []) (rest := [(.int (1 : Int32))]) (W := 1) (q := 9)) (n_coder_0 l Z a0 hw hEL a1 zc rv h0 n0 PE PC PX PO) (hw _ (List.mem_of_getElem? (i := 56) rfl)) (hw _ (List.mem_of_getElem? (i := 7) rfl)) (by decide) (by decide) (by decide) (by decide) ?_
  intro v21 h21 hz21 hQ21
  obtain ⟨rfl, rfl⟩ := hQ21
  refine gs (mkF m 10 _ [(.int (1 : Int32))]) (fun T A t k => XS.ishr A B.x rfl (B.d d9_9) rfl k) ?_
  exact g_retI B d9_10 (by decide) (by decide) ⟨rfl, rfl⟩
set_option maxRecDepth 65536 in
set_option maxHeartbeats 40000000 in
theorem n_min_1_1 (l : Launch) (Z : State) (a0 : Array Value) (hw : ∀ d ∈ tables_1, d.before a0 Z = true) (hEL : EW Z a0 [])   (h0 : Heap) (n0 : Nat)  :
    Met false Z [] l (⟨"java/lang/Math", "min", "(II)I"⟩ : MethodName) jdk_29_method_69_code 2 (some .int) ({ frames := 0, cells := 0, slots := 0, locals := 0 } : Room) #[(.int (1 : Int32)), (.int (1 : Int32))] h0 [] n0 (fun v h => v = some (.int (1 : Int32)) ∧ h0 = h) := by
  refine Met.of (a0 := a0) (Ls := #[.val (.int (1 : Int32)), .val (.int (1 : Int32))]) (fun z => rfl) (Jvm.Free.JP.mathPlain rfl (by decide +kernel)) hEL (fun m => by first | (simp [entryFrame, mkF, argsToLocals, Value.category]; done) | rfl) ?_
  intro p e s m below meth c B hSf
  refine gs (mkF m 1 _ [(.int (1 : Int32))]) (fun T A t k => XS.iloadN A B.x rfl (B.d d14_0) rfl k) ?_
  refine gs (mkF m 2 _ [(.int (1 : Int32)), (.int (1 : Int32))]) (fun T A t k => XS.iloadN A B.x rfl (B.d d14_1) rfl k) ?_
  refine gs (mkF m 5 _ []) (fun T A t k => XS.icmpNo A B.x rfl (B.d d14_2) rfl (flt (by decide : ¬ ((1 : Int32) < (1 : Int32)))).2.2.1 k) ?_
  refine gs (mkF m 6 _ [(.int (1 : Int32))]) (fun T A t k => XS.iloadN A B.x rfl (B.d d14_5) rfl k) ?_
  refine gs (mkF m 10 _ [(.int (1 : Int32))]) (fun T A t k => XS.goto A B.x rfl (pc0 := 6) (pc' := 10) rfl (B.d d14_6) (by decide) (by decide) k) ?_
  exact g_retI B d14_10 (by decide) (by decide) ⟨rfl, rfl⟩
theorem d11_29 : decode jdk_43_method_22_code 29 = .ok (.aload_n 0, 1) := by decide +kernel
theorem d11_30 : decode jdk_43_method_22_code 30 = .ok (.iload_n 1, 1) := by decide +kernel
theorem d11_31 : decode jdk_43_method_22_code 31 = .ok (.iload_n 2, 1) := by decide +kernel
theorem d11_32 : decode jdk_43_method_22_code 32 = .ok (.iload_n 3, 1) := by decide +kernel
theorem d20_0 : decode jdk_43_method_23_code 0 = .ok (.iload_n 1, 1) := by decide +kernel
theorem d20_1 : decode jdk_43_method_23_code 1 = .ok (.i2b, 1) := by decide +kernel
theorem d20_2 : decode jdk_43_method_23_code 2 = .ok (.istore 4, 2) := by decide +kernel
theorem d20_4 : decode jdk_43_method_23_code 4 = .ok (.iload_n 2, 1) := by decide +kernel
theorem d20_5 : decode jdk_43_method_23_code 5 = .ok (.istore 5, 2) := by decide +kernel
theorem d20_7 : decode jdk_43_method_23_code 7 = .ok (.iload 5, 2) := by decide +kernel
theorem d20_9 : decode jdk_43_method_23_code 9 = .ok (.iload_n 3, 1) := by decide +kernel
theorem d20_10 : decode jdk_43_method_23_code 10 = .ok (.if_icmp .ge 21, 3) := by decide +kernel
theorem d20_13 : decode jdk_43_method_23_code 13 = .ok (.aload_n 0, 1) := by decide +kernel
theorem d20_14 : decode jdk_43_method_23_code 14 = .ok (.iload 5, 2) := by decide +kernel
theorem d20_16 : decode jdk_43_method_23_code 16 = .ok (.baload, 1) := by decide +kernel
theorem d20_17 : decode jdk_43_method_23_code 17 = .ok (.iload 4, 2) := by decide +kernel
theorem d20_19 : decode jdk_43_method_23_code 19 = .ok (.if_icmp .ne 6, 3) := by decide +kernel
theorem d20_22 : decode jdk_43_method_23_code 22 = .ok (.iload 5, 2) := by decide +kernel
theorem d20_24 : decode jdk_43_method_23_code 24 = .ok (.ireturn, 1) := by decide +kernel
theorem d20_25 : decode jdk_43_method_23_code 25 = .ok (.iinc 5 1, 3) := by decide +kernel
theorem d20_28 : decode jdk_43_method_23_code 28 = .ok (.goto (-21), 3) := by decide +kernel
theorem d20_31 : decode jdk_43_method_23_code 31 = .ok (.iconst (-1), 1) := by decide +kernel
theorem d20_32 : decode jdk_43_method_23_code 32 = .ok (.ireturn, 1) := by decide +kernel
set_option maxRecDepth 65536 in
set_option maxHeartbeats 40000000 in
theorem n_l_indexOfChar_46_1 (l : Launch) (Z : State) (a0 : Array Value) (hw : ∀ d ∈ tables_1, d.before a0 Z = true) (hEL : EW Z a0 []) (a1 : Addr) (zc : Int32) (rv : Value) (kb : ClassId) (c0 : Int32) (h0 : Heap) (n0 : Nat) (PA : Arv Z h0 a1 kb .byte (1 : Int32) [(.int (StrChars.lo8 c0))] (.int (0 : Int32))) (hr0 : rng c0) (hl0 : ¬ (255 : Int32) < c0) (PX : Sts Z zc rv) (PO : Old Z n0 h0) :
    Met false Z [] l (⟨"java/lang/StringLatin1", "indexOfChar", "([BIII)I"⟩ : MethodName) jdk_43_method_23_code 6 (some .int) ({ frames := 0, cells := 0, slots := 0, locals := 0 } : Room) #[(.ref a1), (.int (46 : Int32)), (.int (0 : Int32)), (.int (1 : Int32))] h0 [] n0 (fun v h => v = some (.int (if c0 = (46 : Int32) then (0 : Int32) else (-1 : Int32))) ∧ h0 = h) := by
  refine Met.of (a0 := a0) (Ls := #[.val (.ref a1), .val (.int (46 : Int32)), .val (.int (0 : Int32)), .val (.int (1 : Int32)), .unset, .unset]) (fun z => rfl) (plainFor_of_name pn_java_lang_StringLatin1) hEL (fun m => by first | (simp [entryFrame, mkF, argsToLocals, Value.category]; done) | rfl) ?_
  intro p e s m below meth c B hSf
  obtain ⟨SC, hzc, SA, SH, SL, SF, rf⟩ := id PX
  refine gs (mkF m 1 _ [(.int (46 : Int32))]) (fun T A t k => XS.iloadN A B.x rfl (B.d d20_0) rfl k) ?_
  refine gs (mkF m 2 _ [(.int (46 : Int32))]) (fun T A t k => XS.i2b A B.x rfl (B.d d20_1) rfl k) ?_
  refine gs (mkF m 4 #[.val (.ref a1), .val (.int (46 : Int32)), .val (.int (0 : Int32)), .val (.int (1 : Int32)), .val (.int (46 : Int32)), .unset] []) (fun T A t k => XS.istore A B.x rfl (B.d d20_2) rfl (l' := #[.val (.ref a1), .val (.int (46 : Int32)), .val (.int (0 : Int32)), .val (.int (1 : Int32)), .val (.int (46 : Int32)), .unset]) rfl k) ?_
  refine gs (mkF m 5 _ [(.int (0 : Int32))]) (fun T A t k => XS.iloadN A B.x rfl (B.d d20_4) rfl k) ?_
  refine gs (mkF m 7 #[.val (.ref a1), .val (.int (46 : Int32)), .val (.int (0 : Int32)), .val (.int (1 : Int32)), .val (.int (46 : Int32)), .val (.int (0 : Int32))] []) (fun T A t k => XS.istore A B.x rfl (B.d d20_5) rfl (l' := #[.val (.ref a1), .val (.int (46 : Int32)), .val (.int (0 : Int32)), .val (.int (1 : Int32)), .val (.int (46 : Int32)), .val (.int (0 : Int32))]) rfl k) ?_
  refine gs (mkF m 9 _ [(.int (0 : Int32))]) (fun T A t k => XS.iload A B.x rfl (B.d d20_7) rfl k) ?_
  refine gs (mkF m 10 _ [(.int (1 : Int32)), (.int (0 : Int32))]) (fun T A t k => XS.iloadN A B.x rfl (B.d d20_9) rfl k) ?_
  refine gs (mkF m 13 _ []) (fun T A t k => XS.icmpNo A B.x rfl (B.d d20_10) rfl (tlt (by decide : (0 : Int32) < (1 : Int32))).2.1 k) ?_
  refine gs (mkF m 14 _ [(.ref a1)]) (fun T A t k => XS.aloadN A B.x rfl (B.d d20_13) rfl rfl k) ?_
  refine gs (mkF m 16 _ [(.int (0 : Int32)), (.ref a1)]) (fun T A t k => XS.iload A B.x rfl (B.d d20_14) rfl k) ?_
  refine g_ldB B PA ⟨by decide, by decide⟩ (v := (.int (StrChars.lo8 c0))) rfl d20_16 (q := 17) rfl ?_
  refine gs (mkF m 19 _ [(.int (46 : Int32)), (.int (StrChars.lo8 c0))]) (fun T A t k => XS.iload A B.x rfl (B.d d20_17) rfl k) ?_
  by_cases hE0 : c0 = (46 : Int32)
  · refine gs (mkF m 22 _ []) (fun T A t k => XS.icmpNo A B.x rfl (B.d d20_19) rfl (teq ((by rw [hE0]; exact lo_46) : (StrChars.lo8 c0) = (46 : Int32))).2 k) ?_
    refine gs (mkF m 24 _ [(.int (0 : Int32))]) (fun T A t k => XS.iload A B.x rfl (B.d d20_22) rfl k) ?_
    exact g_retI B d20_24 (by decide) (by decide) ⟨by rw [if_pos hE0], rfl⟩
  · refine gs (mkF m 25 _ []) (fun T A t k => XS.icmpYes A B.x rfl (pc0 := 19) (pc' := 25) rfl (B.d d20_19) rfl (feq ((fun e => hE0 (lo_eq46 hr0.1 hl0 e)) : ¬ ((StrChars.lo8 c0) = (46 : Int32)))).2 (by decide) (by decide) k) ?_
    refine gs (mkF m 28 #[.val (.ref a1), .val (.int (46 : Int32)), .val (.int (0 : Int32)), .val (.int (1 : Int32)), .val (.int (46 : Int32)), .val (.int (1 : Int32))] []) (fun T A t k => XS.iinc A B.x rfl (B.d d20_25) rfl (l' := #[.val (.ref a1), .val (.int (46 : Int32)), .val (.int (0 : Int32)), .val (.int (1 : Int32)), .val (.int (46 : Int32)), .val (.int (1 : Int32))]) rfl k) ?_
    refine gs (mkF m 7 _ []) (fun T A t k => XS.goto A B.x rfl (pc0 := 28) (pc' := 7) rfl (B.d d20_28) (by decide) (by decide) k) ?_
    refine gs (mkF m 9 _ [(.int (1 : Int32))]) (fun T A t k => XS.iload A B.x rfl (B.d d20_7) rfl k) ?_
    refine gs (mkF m 10 _ [(.int (1 : Int32)), (.int (1 : Int32))]) (fun T A t k => XS.iloadN A B.x rfl (B.d d20_9) rfl k) ?_
    refine gs (mkF m 31 _ []) (fun T A t k => XS.icmpYes A B.x rfl (pc0 := 10) (pc' := 31) rfl (B.d d20_10) rfl (flt (by decide : ¬ ((1 : Int32) < (1 : Int32)))).2.1 (by decide) (by decide) k) ?_
    refine gs (mkF m 32 _ [(.int (-1 : Int32))]) (fun T A t k => XS.iconst A B.x rfl (B.d d20_31) k) ?_
    exact g_retI B d20_32 (by decide) (by decide) ⟨by rw [if_neg hE0], rfl⟩
theorem d11_33 : decode jdk_43_method_22_code 33 = .ok (.invokestatic 95, 3) := by decide +kernel
theorem d11_36 : decode jdk_43_method_22_code 36 = .ok (.ireturn, 1) := by decide +kernel
set_option maxRecDepth 65536 in
set_option maxHeartbeats 40000000 in
theorem n_l_indexOf_46_1 (l : Launch) (Z : State) (a0 : Array Value) (hw : ∀ d ∈ tables_1, d.before a0 Z = true) (hEL : EW Z a0 []) (a1 : Addr) (zc : Int32) (rv : Value) (kb : ClassId) (c0 : Int32) (h0 : Heap) (n0 : Nat) (PA : Arv Z h0 a1 kb .byte (1 : Int32) [(.int (StrChars.lo8 c0))] (.int (0 : Int32))) (hr0 : rng c0) (hl0 : ¬ (255 : Int32) < c0) (PX : Sts Z zc rv) (PO : Old Z n0 h0) :
    Met false Z [] l (⟨"java/lang/StringLatin1", "indexOf", "([BIII)I"⟩ : MethodName) jdk_43_method_22_code 4 (some .int) ({ frames := 1, cells := 0, slots := 0, locals := 17 } : Room) #[(.ref a1), (.int (46 : Int32)), (.int (0 : Int32)), (.int (1 : Int32))] h0 [] n0 (fun v h => v = some (.int (if c0 = (46 : Int32) then (0 : Int32) else (-1 : Int32))) ∧ h0 = h) := by
  refine Met.of (a0 := a0) (Ls := #[.val (.ref a1), .val (.int (46 : Int32)), .val (.int (0 : Int32)), .val (.int (1 : Int32))]) (fun z => rfl) (plainFor_of_name pn_java_lang_StringLatin1) hEL (fun m => by first | (simp [entryFrame, mkF, argsToLocals, Value.category]; done) | rfl) ?_
  intro p e s m below meth c B hSf
  obtain ⟨SC, hzc, SA, SH, SL, SF, rf⟩ := id PX
  refine gs (mkF m 1 _ [(.int (46 : Int32))]) (fun T A t k => XS.iloadN A B.x rfl (B.d d11_0) rfl k) ?_
  refine g_metN (c_static B (hw _ (List.mem_of_getElem? (i := 61) rfl)) (hw _ (List.mem_of_getElem? (i := 62) rfl)) (hw _ (List.mem_of_getElem? (i := 59) rfl)) (hw _ (List.mem_of_getElem? (i := 63) rfl)) (by decide) rfl (lenOf pd_28I29Z rfl) rfl (Nat.le_of_eq rfl) d11_1 rfl (argsL := [(.int (46 : Int32))]) (rest := []) (W := 0) (q := 4)) (n_ce_46 l Z a0 hw hEL  h0 n0) (hw _ (List.mem_of_getElem? (i := 63) rfl)) (hw _ (List.mem_of_getElem? (i := 59) rfl)) (by decide) (by decide) (by decide) (by decide) ?_
  intro v21 h21 hz21 hQ21
  obtain ⟨rfl, rfl⟩ := hQ21
  refine gs (mkF m 9 _ []) (fun T A t k => XS.ifYes A B.x rfl (pc0 := 4) (pc' := 9) rfl (B.d d11_4) rfl ((if0 _ _).trans (feq (by decide : ¬ ((1 : Int32) = (0 : Int32)))).2) (by decide) (by decide) k) ?_
  refine gs (mkF m 10 _ [(.int (0 : Int32))]) (fun T A t k => XS.iloadN A B.x rfl (B.d d11_9) rfl k) ?_
  refine gs (mkF m 11 _ [(.int (0 : Int32)), (.int (0 : Int32))]) (fun T A t k => XS.iconst A B.x rfl (B.d d11_10) k) ?_
  refine g_metN (c_static B (hw _ (List.mem_of_getElem? (i := 64) rfl)) (hw _ (List.mem_of_getElem? (i := 65) rfl)) (hw _ (List.mem_of_getElem? (i := 66) rfl)) (hw _ (List.mem_of_getElem? (i := 67) rfl)) (by decide) rfl (lenOf pd_28II29I rfl) rfl (Nat.le_of_eq rfl) d11_11 rfl (argsL := [(.int (0 : Int32)), (.int (0 : Int32))]) (rest := []) (W := 0) (q := 14)) (n_max_0_0 l Z a0 hw hEL  h0 n0) (hw _ (List.mem_of_getElem? (i := 67) rfl)) (hw _ (List.mem_of_getElem? (i := 66) rfl)) (by decide) (by decide) (by decide) (by decide) ?_
  intro v22 h22 hz22 hQ22
  obtain ⟨rfl, rfl⟩ := hQ22
  refine gs (mkF m 15 #[.val (.ref a1), .val (.int (46 : Int32)), .val (.int (0 : Int32)), .val (.int (1 : Int32))] []) (fun T A t k => XS.istoreN A B.x rfl (B.d d11_14) rfl (l' := #[.val (.ref a1), .val (.int (46 : Int32)), .val (.int (0 : Int32)), .val (.int (1 : Int32))]) rfl k) ?_
  refine gs (mkF m 16 _ [(.int (1 : Int32))]) (fun T A t k => XS.iloadN A B.x rfl (B.d d11_15) rfl k) ?_
  refine gs (mkF m 17 _ [(.ref a1), (.int (1 : Int32))]) (fun T A t k => XS.aloadN A B.x rfl (B.d d11_16) rfl rfl k) ?_
  refine g_len B PA d11_17 (q := 18) rfl ?_
  refine g_metN (c_static B (hw _ (List.mem_of_getElem? (i := 68) rfl)) (hw _ (List.mem_of_getElem? (i := 69) rfl)) (hw _ (List.mem_of_getElem? (i := 66) rfl)) (hw _ (List.mem_of_getElem? (i := 70) rfl)) (by decide) rfl (lenOf pd_28II29I rfl) rfl (Nat.le_of_eq rfl) d11_18 rfl (argsL := [(.int (1 : Int32)), (.int (1 : Int32))]) (rest := []) (W := 0) (q := 21)) (n_min_1_1 l Z a0 hw hEL  h0 n0) (hw _ (List.mem_of_getElem? (i := 70) rfl)) (hw _ (List.mem_of_getElem? (i := 66) rfl)) (by decide) (by decide) (by decide) (by decide) ?_
  intro v23 h23 hz23 hQ23
  obtain ⟨rfl, rfl⟩ := hQ23
  refine gs (mkF m 22 #[.val (.ref a1), .val (.int (46 : Int32)), .val (.int (0 : Int32)), .val (.int (1 : Int32))] []) (fun T A t k => XS.istoreN A B.x rfl (B.d d11_21) rfl (l' := #[.val (.ref a1), .val (.int (46 : Int32)), .val (.int (0 : Int32)), .val (.int (1 : Int32))]) rfl k) ?_
  refine gs (mkF m 23 _ [(.int (0 : Int32))]) (fun T A t k => XS.iloadN A B.x rfl (B.d d11_22) rfl k) ?_
  refine gs (mkF m 24 _ [(.int (1 : Int32)), (.int (0 : Int32))]) (fun T A t k => XS.iloadN A B.x rfl (B.d d11_23) rfl k) ?_
  refine gs (mkF m 29 _ []) (fun T A t k => XS.icmpYes A B.x rfl (pc0 := 24) (pc' := 29) rfl (B.d d11_24) rfl (tlt (by decide : (0 : Int32) < (1 : Int32))).1 (by decide) (by decide) k) ?_
  refine gs (mkF m 30 _ [(.ref a1)]) (fun T A t k => XS.aloadN A B.x rfl (B.d d11_29) rfl rfl k) ?_
  refine gs (mkF m 31 _ [(.int (46 : Int32)), (.ref a1)]) (fun T A t k => XS.iloadN A B.x rfl (B.d d11_30) rfl k) ?_
  refine gs (mkF m 32 _ [(.int (0 : Int32)), (.int (46 : Int32)), (.ref a1)]) (fun T A t k => XS.iloadN A B.x rfl (B.d d11_31) rfl k) ?_
  refine gs (mkF m 33 _ [(.int (1 : Int32)), (.int (0 : Int32)), (.int (46 : Int32)), (.ref a1)]) (fun T A t k => XS.iloadN A B.x rfl (B.d d11_32) rfl k) ?_
  refine g_metN (c_static B (hw _ (List.mem_of_getElem? (i := 87) rfl)) (hw _ (List.mem_of_getElem? (i := 88) rfl)) (hw _ (List.mem_of_getElem? (i := 59) rfl)) (hw _ (List.mem_of_getElem? (i := 89) rfl)) (by decide) rfl (lenOf pd_285bBIII29I rfl) rfl (Nat.le_of_eq rfl) d11_33 rfl (argsL := [(.ref a1), (.int (46 : Int32)), (.int (0 : Int32)), (.int (1 : Int32))]) (rest := []) (W := 0) (q := 36)) (n_l_indexOfChar_46_1 l Z a0 hw hEL a1 zc rv kb c0 h0 n0 PA hr0 hl0 PX PO) (hw _ (List.mem_of_getElem? (i := 89) rfl)) (hw _ (List.mem_of_getElem? (i := 59) rfl)) (by decide) (by decide) (by decide) (by decide) ?_
  intro v24 h24 hz24 hQ24
  obtain ⟨rfl, rfl⟩ := hQ24
  exact g_retI B d11_36 (by decide) (by decide) ⟨rfl, rfl⟩
theorem d8_17 : decode jdk_42_method_154_code 17 = .ok (.iconst 0, 1) := by decide +kernel
set_option maxRecDepth 65536 in
set_option maxHeartbeats 40000000 in
theorem n_isLatin1_1 (l : Launch) (Z : State) (a0 : Array Value) (hw : ∀ d ∈ tables_1, d.before a0 Z = true) (hEL : EW Z a0 []) (a1 : Addr) (zc : Int32) (rv : Value) (h0 : Heap) (n0 : Nat) (PE : Exa Z h0 a1 "java/lang/String") (PC : Fld Z h0 a1 "java/lang/String" "coder" "B" (.int (1 : Int32))) (PX : Sts Z zc rv) (PO : Old Z n0 h0) :
    Met false Z [] l (⟨"java/lang/String", "isLatin1", "()Z"⟩ : MethodName) jdk_42_method_154_code 1 (some .boolean) ({ frames := 0, cells := 0, slots := 0, locals := 0 } : Room) #[(.ref a1)] h0 [] n0 (fun v h => v = some (.int (0 : Int32)) ∧ h0 = h) := by
  refine Met.of (a0 := a0) (Ls := #[.val (.ref a1)]) (fun z => rfl) (plainFor_of_name pn_java_lang_String) hEL (fun m => by first | (simp [entryFrame, mkF, argsToLocals, Value.category]; done) | rfl) ?_
  intro p e s m below meth c B hSf
  obtain ⟨SC, hzc, SA, SH, SL, SF, rf⟩ := id PX
  refine g_getS B (hw _ (List.mem_of_getElem? (i := 46) rfl)) (SC.ext PO.2) d8_0 (q := 3) rfl ?_
  refine gs (mkF m 6 _ []) (fun T A t k => XS.ifNo A B.x rfl (B.d d8_3) rfl ((if0 _ _).trans (feq (hzc : ¬ (zc = (0 : Int32)))).1) k) ?_
  refine gs (mkF m 7 _ [(.ref a1)]) (fun T A t k => XS.aloadN A B.x rfl (B.d d8_6) rfl rfl k) ?_
  refine g_getF B (hw _ (List.mem_of_getElem? (i := 26) rfl)) Via.refl PC d8_7 (q := 10) rfl ?_
  refine gs (mkF m 17 _ []) (fun T A t k => XS.ifYes A B.x rfl (pc0 := 10) (pc' := 17) rfl (B.d d8_10) rfl ((if0 _ _).trans (feq (by decide : ¬ ((1 : Int32) = (0 : Int32)))).2) (by decide) (by decide) k) ?_
  refine gs (mkF m 18 _ [(.int (0 : Int32))]) (fun T A t k => XS.iconst A B.x rfl (B.d d8_17) k) ?_
  exact g_retN (t := .boolean) B (by simp) d8_18 (by decide) (by decide) ⟨rfl, rfl⟩
theorem d7_23 : decode jdk_42_method_80_code 23 = .ok (.aload_n 0, 1) := by decide +kernel
theorem d7_24 : decode jdk_42_method_80_code 24 = .ok (.getfield 9, 3) := by decide +kernel
theorem d7_27 : decode jdk_42_method_80_code 27 = .ok (.iload_n 1, 1) := by decide +kernel
theorem d7_28 : decode jdk_42_method_80_code 28 = .ok (.iload_n 2, 1) := by decide +kernel
theorem d7_29 : decode jdk_42_method_80_code 29 = .ok (.aload_n 0, 1) := by decide +kernel
set_option maxRecDepth 65536 in
set_option maxHeartbeats 40000000 in
theorem n_coder_1 (l : Launch) (Z : State) (a0 : Array Value) (hw : ∀ d ∈ tables_1, d.before a0 Z = true) (hEL : EW Z a0 []) (a1 : Addr) (zc : Int32) (rv : Value) (h0 : Heap) (n0 : Nat) (PE : Exa Z h0 a1 "java/lang/String") (PC : Fld Z h0 a1 "java/lang/String" "coder" "B" (.int (1 : Int32))) (PX : Sts Z zc rv) (PO : Old Z n0 h0) :
    Met false Z [] l (⟨"java/lang/String", "coder", "()B"⟩ : MethodName) jdk_42_method_152_code 1 (some .byte) ({ frames := 0, cells := 0, slots := 0, locals := 0 } : Room) #[(.ref a1)] h0 [] n0 (fun v h => v = some (.int (1 : Int32)) ∧ h0 = h) := by
  refine Met.of (a0 := a0) (Ls := #[.val (.ref a1)]) (fun z => rfl) (plainFor_of_name pn_java_lang_String) hEL (fun m => by first | (simp [entryFrame, mkF, argsToLocals, Value.category]; done) | rfl) ?_
  intro p e s m below meth c B hSf
  obtain ⟨SC, hzc, SA, SH, SL, SF, rf⟩ := id PX
  refine g_getS B (hw _ (List.mem_of_getElem? (i := 46) rfl)) (SC.ext PO.2) d10_0 (q := 3) rfl ?_
  refine gs (mkF m 6 _ []) (fun T A t k => XS.ifNo A B.x rfl (B.d d10_3) rfl ((if0 _ _).trans (feq (hzc : ¬ (zc = (0 : Int32)))).1) k) ?_
  refine gs (mkF m 7 _ [(.ref a1)]) (fun T A t k => XS.aloadN A B.x rfl (B.d d10_6) rfl rfl k) ?_
  refine g_getF B (hw _ (List.mem_of_getElem? (i := 26) rfl)) Via.refl PC d10_7 (q := 10) rfl ?_
  refine gs (mkF m 14 _ [(.int (1 : Int32))]) (fun T A t k => XS.goto A B.x rfl (pc0 := 10) (pc' := 14) rfl (B.d d10_10) (by decide) (by decide) k) ?_
  exact g_retN (t := .byte) B (by simp) d10_14 (by decide) (by decide) ⟨rfl, rfl⟩
set_option maxRecDepth 65536 in
set_option maxHeartbeats 40000000 in
theorem n_length_2_1 (l : Launch) (Z : State) (a0 : Array Value) (hw : ∀ d ∈ tables_1, d.before a0 Z = true) (hEL : EW Z a0 []) (a1 : Addr) (zc : Int32) (rv : Value) (t : Addr) (kb : ClassId) (c0 : Int32) (h0 : Heap) (n0 : Nat) (PE : Exa Z h0 a1 "java/lang/String") (PC : Fld Z h0 a1 "java/lang/String" "coder" "B" (.int (1 : Int32))) (PV : Fld Z h0 a1 "java/lang/String" "value" "[B" (.ref t)) (PA : Arv Z h0 t kb .byte (2 : Int32) [(.int (StrChars.lo8 c0)), (.int (StrChars.hi8 c0))] (.int (0 : Int32))) (PX : Sts Z zc rv) (PO : Old Z n0 h0) :
    Met false Z [] l (⟨"java/lang/String", "length", "()I"⟩ : MethodName) jdk_42_method_54_code 1 (some .int) ({ frames := 1, cells := 0, slots := 0, locals := 13 } : Room) #[(.ref a1)] h0 [] n0 (fun v h => v = some (.int (1 : Int32)) ∧ h0 = h) := by
  refine Met.of (a0 := a0) (Ls := #[.val (.ref a1)]) (fun z => rfl) (plainFor_of_name pn_java_lang_String) hEL (fun m => by first | (simp [entryFrame, mkF, argsToLocals, Value.category]; done) | rfl) ?_
  intro p e s m below meth c B hSf
  obtain ⟨SC, hzc, SA, SH, SL, SF, rf⟩ := id PX
  refine gs (mkF m 1 _ [(.ref a1)]) (fun T A t k => XS.aloadN A B.x rfl (B.d d9_0) rfl rfl k) ?_
  refine g_getF B (hw _ (List.mem_of_getElem? (i := 25) rfl)) Via.refl PV d9_1 (q := 4) rfl ?_
  refine g_len B PA d9_4 (q := 5) rfl ?_
  refine gs (mkF m 6 _ [(.ref a1), (.int (2 : Int32))]) (fun T A t k => XS.aloadN A B.x rfl (B.d d9_5) rfl rfl k) ?_
  refine g_metN (c_virt B PE (hw _ (List.mem_of_getElem? (i := 52) rfl)) (hw _ (List.mem_of_getElem? (i := 53) rfl)) (hw _ (List.mem_of_getElem? (i := 55) rfl)) (hw _ (List.mem_of_getElem? (i := 54) rfl)) (nfs (z := (⟨"java/lang/String", "coder", "()B"⟩ : MethodName)) (hw _ (List.mem_of_getElem? (i := 55) rfl))) (by decide) rfl (lenOf pd_2829B rfl) rfl (Nat.le_of_eq rfl) d9_6 rfl (argsL := []) (rest := [(.int (2 : Int32))]) (W := 1) (q := 9)) (n_coder_1 l Z a0 hw hEL a1 zc rv h0 n0 PE PC PX PO) (hw _ (List.mem_of_getElem? (i := 56) rfl)) (hw _ (List.mem_of_getElem? (i := 7) rfl)) (by decide) (by decide) (by decide) (by decide) ?_
  intro v21 h21 hz21 hQ21
  obtain ⟨rfl, rfl⟩ := hQ21
  refine gs (mkF m 10 _ [(.int (1 : Int32))]) (fun T A t k => XS.ishr A B.x rfl (B.d d9_9) rfl k) ?_
  exact g_retI B d9_10 (by decide) (by decide) ⟨rfl, rfl⟩
theorem d7_30 : decode jdk_42_method_80_code 30 = .ok (.invokevirtual 505, 3) := by decide +kernel
theorem d26_0 : decode jdk_52_method_40_code 0 = .ok (.iload_n 2, 1) := by decide +kernel
theorem d26_1 : decode jdk_52_method_40_code 1 = .ok (.iconst 0, 1) := by decide +kernel
theorem d26_2 : decode jdk_52_method_40_code 2 = .ok (.invokestatic 224, 3) := by decide +kernel
theorem d26_5 : decode jdk_52_method_40_code 5 = .ok (.istore_n 2, 1) := by decide +kernel
theorem d26_6 : decode jdk_52_method_40_code 6 = .ok (.iload_n 3, 1) := by decide +kernel
theorem d26_7 : decode jdk_52_method_40_code 7 = .ok (.aload_n 0, 1) := by decide +kernel
theorem d26_8 : decode jdk_52_method_40_code 8 = .ok (.arraylength, 1) := by decide +kernel
theorem d26_9 : decode jdk_52_method_40_code 9 = .ok (.iconst 1, 1) := by decide +kernel
theorem d26_10 : decode jdk_52_method_40_code 10 = .ok (.ishr, 1) := by decide +kernel
theorem d26_11 : decode jdk_52_method_40_code 11 = .ok (.invokestatic 183, 3) := by decide +kernel
theorem d26_14 : decode jdk_52_method_40_code 14 = .ok (.istore_n 3, 1) := by decide +kernel
theorem d26_15 : decode jdk_52_method_40_code 15 = .ok (.iload_n 2, 1) := by decide +kernel
theorem d26_16 : decode jdk_52_method_40_code 16 = .ok (.iload_n 3, 1) := by decide +kernel
theorem d26_17 : decode jdk_52_method_40_code 17 = .ok (.if_icmp .lt 5, 3) := by decide +kernel
theorem d26_22 : decode jdk_52_method_40_code 22 = .ok (.iload_n 1, 1) := by decide +kernel
theorem d26_23 : decode jdk_52_method_40_code 23 = .ok (.ldc 227, 2) := by decide +kernel
theorem d26_25 : decode jdk_52_method_40_code 25 = .ok (.if_icmp .ge 11, 3) := by decide +kernel
theorem d26_28 : decode jdk_52_method_40_code 28 = .ok (.aload_n 0, 1) := by decide +kernel
theorem d26_29 : decode jdk_52_method_40_code 29 = .ok (.iload_n 1, 1) := by decide +kernel
theorem d26_30 : decode jdk_52_method_40_code 30 = .ok (.iload_n 2, 1) := by decide +kernel
theorem d26_31 : decode jdk_52_method_40_code 31 = .ok (.iload_n 3, 1) := by decide +kernel
theorem d27_0 : decode jdk_52_method_47_code 0 = .ok (.iload_n 2, 1) := by decide +kernel
theorem d27_1 : decode jdk_52_method_47_code 1 = .ok (.iload_n 3, 1) := by decide +kernel
theorem d27_2 : decode jdk_52_method_47_code 2 = .ok (.aload_n 0, 1) := by decide +kernel
theorem d28_0 : decode jdk_52_method_93_code 0 = .ok (.iload_n 0, 1) := by decide +kernel
theorem d28_1 : decode jdk_52_method_93_code 1 = .ok (.iload_n 1, 1) := by decide +kernel
theorem d28_2 : decode jdk_52_method_93_code 2 = .ok (.aload_n 2, 1) := by decide +kernel
theorem d29_0 : decode jdk_52_method_6_code 0 = .ok (.aload_n 0, 1) := by decide +kernel
theorem d29_1 : decode jdk_52_method_6_code 1 = .ok (.arraylength, 1) := by decide +kernel
theorem d29_2 : decode jdk_52_method_6_code 2 = .ok (.iconst 1, 1) := by decide +kernel
theorem d29_3 : decode jdk_52_method_6_code 3 = .ok (.ishr, 1) := by decide +kernel
theorem d29_4 : decode jdk_52_method_6_code 4 = .ok (.ireturn, 1) := by decide +kernel
set_option maxRecDepth 65536 in
set_option maxHeartbeats 40000000 in
theorem n_ulen_2 (l : Launch) (Z : State) (a0 : Array Value) (hw : ∀ d ∈ tables_1, d.before a0 Z = true) (hEL : EW Z a0 []) (a1 : Addr) (kb : ClassId) (c0 : Int32) (h0 : Heap) (n0 : Nat) (PA : Arv Z h0 a1 kb .byte (2 : Int32) [(.int (StrChars.lo8 c0)), (.int (StrChars.hi8 c0))] (.int (0 : Int32))) :
    Met false Z [] l (⟨"java/lang/StringUTF16", "length", "([B)I"⟩ : MethodName) jdk_52_method_6_code 1 (some .int) ({ frames := 0, cells := 0, slots := 0, locals := 0 } : Room) #[(.ref a1)] h0 [] n0 (fun v h => v = some (.int (1 : Int32)) ∧ h0 = h) := by
  refine Met.of (a0 := a0) (Ls := #[.val (.ref a1)]) (fun z => rfl) (plainFor_of_name pn_java_lang_StringUTF16) hEL (fun m => by first | (simp [entryFrame, mkF, argsToLocals, Value.category]; done) | rfl) ?_
  intro p e s m below meth c B hSf
  refine gs (mkF m 1 _ [(.ref a1)]) (fun T A t k => XS.aloadN A B.x rfl (B.d d29_0) rfl rfl k) ?_
  refine g_len B PA d29_1 (q := 2) rfl ?_
  refine gs (mkF m 3 _ [(.int (1 : Int32)), (.int (2 : Int32))]) (fun T A t k => XS.iconst A B.x rfl (B.d d29_2) k) ?_
  refine gs (mkF m 4 _ [(.int (1 : Int32))]) (fun T A t k => XS.ishr A B.x rfl (B.d d29_3) rfl k) ?_
  exact g_retI B d29_4 (by decide) (by decide) ⟨rfl, rfl⟩
theorem pd_285bB29I : parseMethodDescriptor "([B)I" = some ⟨[(.array .byte)], some .int⟩ := by decide +kernel
theorem d28_3 : decode jdk_52_method_93_code 3 = .ok (.invokestatic 48, 3) := by decide +kernel
theorem d30_0 : decode jdk_42_method_158_code 0 = .ok (.iload_n 0, 1) := by decide +kernel
theorem d30_1 : decode jdk_42_method_158_code 1 = .ok (.iload_n 1, 1) := by decide +kernel
theorem d30_2 : decode jdk_42_method_158_code 2 = .ok (.iload_n 2, 1) := by decide +kernel
theorem d30_3 : decode jdk_42_method_158_code 3 = .ok (.getstatic 1053, 3) := by decide +kernel
theorem pn_jdk_internal_util_Preconditions : plainName "jdk/internal/util/Preconditions" = true := by first | (simp [plainName, overriddenIn]; done) | decide +kernel
theorem d31_0 : decode jdk_41_method_12_code 0 = .ok (.iload_n 0, 1) := by decide +kernel
theorem d31_1 : decode jdk_41_method_12_code 1 = .ok (.ifCond .lt 13, 3) := by decide +kernel
theorem d31_4 : decode jdk_41_method_12_code 4 = .ok (.iload_n 0, 1) := by decide +kernel
theorem d31_5 : decode jdk_41_method_12_code 5 = .ok (.iload_n 1, 1) := by decide +kernel
theorem d31_6 : decode jdk_41_method_12_code 6 = .ok (.if_icmp .gt 8, 3) := by decide +kernel
theorem d31_9 : decode jdk_41_method_12_code 9 = .ok (.iload_n 1, 1) := by decide +kernel
theorem d31_10 : decode jdk_41_method_12_code 10 = .ok (.iload_n 2, 1) := by decide +kernel
theorem d31_11 : decode jdk_41_method_12_code 11 = .ok (.if_icmp .le 11, 3) := by decide +kernel
theorem d31_22 : decode jdk_41_method_12_code 22 = .ok (.iload_n 0, 1) := by decide +kernel
theorem d31_23 : decode jdk_41_method_12_code 23 = .ok (.ireturn, 1) := by decide +kernel
set_option maxRecDepth 65536 in
set_option maxHeartbeats 40000000 in
theorem n_cfi_1 (l : Launch) (Z : State) (a0 : Array Value) (hw : ∀ d ∈ tables_1, d.before a0 Z = true) (hEL : EW Z a0 [])  (rv : Value) (h0 : Heap) (n0 : Nat) (rf : rv.isRef = true) :
    Met false Z [] l (⟨"jdk/internal/util/Preconditions", "checkFromToIndex", "(IIILjava/util/function/BiFunction;)I"⟩ : MethodName) jdk_41_method_12_code 4 (some .int) ({ frames := 0, cells := 0, slots := 0, locals := 0 } : Room) #[(.int (0 : Int32)), (.int (1 : Int32)), (.int (1 : Int32)), rv] h0 [] n0 (fun v h => v = some (.int (0 : Int32)) ∧ h0 = h) := by
  refine Met.of (a0 := a0) (Ls := #[.val (.int (0 : Int32)), .val (.int (1 : Int32)), .val (.int (1 : Int32)), .val rv]) (fun z => rfl) (plainFor_of_name pn_jdk_internal_util_Preconditions) hEL (fun m => by first | (simp [entryFrame, mkF, argsToLocals, Value.category]; done) | rfl | (rcases ref_cases rf with rfl | ⟨a, rfl⟩ <;> first | rfl | (simp [entryFrame, mkF, argsToLocals, Value.category]; done))) ?_
  intro p e s m below meth c B hSf
  refine gs (mkF m 1 _ [(.int (0 : Int32))]) (fun T A t k => XS.iloadN A B.x rfl (B.d d31_0) rfl k) ?_
  refine gs (mkF m 4 _ []) (fun T A t k => XS.ifNo A B.x rfl (B.d d31_1) rfl ((if0 _ _).trans (flt (by decide : ¬ ((0 : Int32) < (0 : Int32)))).1) k) ?_
  refine gs (mkF m 5 _ [(.int (0 : Int32))]) (fun T A t k => XS.iloadN A B.x rfl (B.d d31_4) rfl k) ?_
  refine gs (mkF m 6 _ [(.int (1 : Int32)), (.int (0 : Int32))]) (fun T A t k => XS.iloadN A B.x rfl (B.d d31_5) rfl k) ?_
  refine gs (mkF m 9 _ []) (fun T A t k => XS.icmpNo A B.x rfl (B.d d31_6) rfl (flt (by decide : ¬ ((1 : Int32) < (0 : Int32)))).2.2.1 k) ?_
  refine gs (mkF m 10 _ [(.int (1 : Int32))]) (fun T A t k => XS.iloadN A B.x rfl (B.d d31_9) rfl k) ?_
  refine gs (mkF m 11 _ [(.int (1 : Int32)), (.int (1 : Int32))]) (fun T A t k => XS.iloadN A B.x rfl (B.d d31_10) rfl k) ?_
  refine gs (mkF m 22 _ []) (fun T A t k => XS.icmpYes A B.x rfl (pc0 := 11) (pc' := 22) rfl (B.d d31_11) rfl (flt (by decide : ¬ ((1 : Int32) < (1 : Int32)))).2.2.2 (by decide) (by decide) k) ?_
  refine gs (mkF m 23 _ [(.int (0 : Int32))]) (fun T A t k => XS.iloadN A B.x rfl (B.d d31_22) rfl k) ?_
  exact g_retI B d31_23 (by decide) (by decide) ⟨rfl, rfl⟩
theorem pd_28IIILjava2futil2ffunction2fBiFunction3b29I : parseMethodDescriptor "(IIILjava/util/function/BiFunction;)I" = some ⟨[.int, .int, .int, (.object "java/util/function/BiFunction")], some .int⟩ := by decide +kernel
theorem d30_6 : decode jdk_42_method_158_code 6 = .ok (.invokestatic 1062, 3) := by decide +kernel
theorem d30_9 : decode jdk_42_method_158_code 9 = .ok (.pop, 1) := by decide +kernel
theorem d30_10 : decode jdk_42_method_158_code 10 = .ok (.return_, 1) := by decide +kernel
set_option maxRecDepth 65536 in
set_option maxHeartbeats 40000000 in
theorem n_cb_1 (l : Launch) (Z : State) (a0 : Array Value) (hw : ∀ d ∈ tables_1, d.before a0 Z = true) (hEL : EW Z a0 [])  (zc : Int32) (rv : Value) (h0 : Heap) (n0 : Nat) (PX : Sts Z zc rv) (PO : Old Z n0 h0) :
    Met false Z [] l (⟨"java/lang/String", "checkBoundsBeginEnd", "(III)V"⟩ : MethodName) jdk_42_method_158_code 3 none ({ frames := 1, cells := 0, slots := 0, locals := 15 } : Room) #[(.int (0 : Int32)), (.int (1 : Int32)), (.int (1 : Int32))] h0 [] n0 (fun v h => v = none ∧ h0 = h) := by
  refine Met.of (a0 := a0) (Ls := #[.val (.int (0 : Int32)), .val (.int (1 : Int32)), .val (.int (1 : Int32))]) (fun z => rfl) (plainFor_of_name pn_java_lang_String) hEL (fun m => by first | (simp [entryFrame, mkF, argsToLocals, Value.category]; done) | rfl) ?_
  intro p e s m below meth c B hSf
  obtain ⟨SC, hzc, SA, SH, SL, SF, rf⟩ := id PX
  refine gs (mkF m 1 _ [(.int (0 : Int32))]) (fun T A t k => XS.iloadN A B.x rfl (B.d d30_0) rfl k) ?_
  refine gs (mkF m 2 _ [(.int (1 : Int32)), (.int (0 : Int32))]) (fun T A t k => XS.iloadN A B.x rfl (B.d d30_1) rfl k) ?_
  refine gs (mkF m 3 _ [(.int (1 : Int32)), (.int (1 : Int32)), (.int (0 : Int32))]) (fun T A t k => XS.iloadN A B.x rfl (B.d d30_2) rfl k) ?_
  refine g_getS B (hw _ (List.mem_of_getElem? (i := 127) rfl)) (SF.ext PO.2) d30_3 (q := 6) rfl ?_
  refine g_metN (c_static B (hw _ (List.mem_of_getElem? (i := 129) rfl)) (hw _ (List.mem_of_getElem? (i := 130) rfl)) (hw _ (List.mem_of_getElem? (i := 128) rfl)) (hw _ (List.mem_of_getElem? (i := 131) rfl)) (by decide) rfl (lenOf pd_28IIILjava2futil2ffunction2fBiFunction3b29I rfl) rfl (Nat.le_of_eq rfl) d30_6 rfl (argsL := [(.int (0 : Int32)), (.int (1 : Int32)), (.int (1 : Int32)), rv]) (rest := []) (W := 0) (q := 9)) (n_cfi_1 l Z a0 hw hEL (rv) h0 n0 rf) (hw _ (List.mem_of_getElem? (i := 131) rfl)) (hw _ (List.mem_of_getElem? (i := 128) rfl)) (by decide) (by decide) (by decide) (by decide) ?_
  intro v21 h21 hz21 hQ21
  obtain ⟨rfl, rfl⟩ := hQ21
  refine gs (mkF m 10 _ []) (fun T A t k => XS.pop A B.x rfl (B.d d30_9) rfl rfl k) ?_
  exact g_ret0 B d30_10 (by decide) (by decide) ⟨rfl, rfl⟩
theorem pd_28III29V : parseMethodDescriptor "(III)V" = some ⟨[.int, .int, .int], none⟩ := by decide +kernel
theorem d28_6 : decode jdk_52_method_93_code 6 = .ok (.invokestatic 241, 3) := by decide +kernel
theorem d28_9 : decode jdk_52_method_93_code 9 = .ok (.return_, 1) := by decide +kernel
set_option maxRecDepth 65536 in
set_option maxHeartbeats 40000000 in
theorem n_cu_2 (l : Launch) (Z : State) (a0 : Array Value) (hw : ∀ d ∈ tables_1, d.before a0 Z = true) (hEL : EW Z a0 []) (a1 : Addr) (zc : Int32) (rv : Value) (kb : ClassId) (c0 : Int32) (h0 : Heap) (n0 : Nat) (PA : Arv Z h0 a1 kb .byte (2 : Int32) [(.int (StrChars.lo8 c0)), (.int (StrChars.hi8 c0))] (.int (0 : Int32))) (PX : Sts Z zc rv) (PO : Old Z n0 h0) :
    Met false Z [] l (⟨"java/lang/StringUTF16", "checkBoundsBeginEnd", "(II[B)V"⟩ : MethodName) jdk_52_method_93_code 3 none ({ frames := 2, cells := 0, slots := 0, locals := 29 } : Room) #[(.int (0 : Int32)), (.int (1 : Int32)), (.ref a1)] h0 [] n0 (fun v h => v = none ∧ h0 = h) := by
  refine Met.of (a0 := a0) (Ls := #[.val (.int (0 : Int32)), .val (.int (1 : Int32)), .val (.ref a1)]) (fun z => rfl) (plainFor_of_name pn_java_lang_StringUTF16) hEL (fun m => by first | (simp [entryFrame, mkF, argsToLocals, Value.category]; done) | rfl) ?_
  intro p e s m below meth c B hSf
  obtain ⟨SC, hzc, SA, SH, SL, SF, rf⟩ := id PX
  refine gs (mkF m 1 _ [(.int (0 : Int32))]) (fun T A t k => XS.iloadN A B.x rfl (B.d d28_0) rfl k) ?_
  refine gs (mkF m 2 _ [(.int (1 : Int32)), (.int (0 : Int32))]) (fun T A t k => XS.iloadN A B.x rfl (B.d d28_1) rfl k) ?_
  refine gs (mkF m 3 _ [(.ref a1), (.int (1 : Int32)), (.int (0 : Int32))]) (fun T A t k => XS.aloadN A B.x rfl (B.d d28_2) rfl rfl k) ?_
  refine g_metN (c_static B (hw _ (List.mem_of_getElem? (i := 121) rfl)) (hw _ (List.mem_of_getElem? (i := 122) rfl)) (hw _ (List.mem_of_getElem? (i := 76) rfl)) (hw _ (List.mem_of_getElem? (i := 123) rfl)) (by decide) rfl (lenOf pd_285bB29I rfl) rfl (Nat.le_of_eq rfl) d28_3 rfl (argsL := [(.ref a1)]) (rest := [(.int (1 : Int32)), (.int (0 : Int32))]) (W := 2) (q := 6)) (n_ulen_2 l Z a0 hw hEL a1 kb c0 h0 n0 PA) (hw _ (List.mem_of_getElem? (i := 123) rfl)) (hw _ (List.mem_of_getElem? (i := 76) rfl)) (by decide) (by decide) (by decide) (by decide) ?_
  intro v21 h21 hz21 hQ21
  obtain ⟨rfl, rfl⟩ := hQ21
  refine g_metN (c_static B (hw _ (List.mem_of_getElem? (i := 124) rfl)) (hw _ (List.mem_of_getElem? (i := 125) rfl)) (hw _ (List.mem_of_getElem? (i := 7) rfl)) (hw _ (List.mem_of_getElem? (i := 126) rfl)) (by decide) rfl (lenOf pd_28III29V rfl) rfl (Nat.le_of_eq rfl) d28_6 rfl (argsL := [(.int (0 : Int32)), (.int (1 : Int32)), (.int (1 : Int32))]) (rest := []) (W := 0) (q := 9)) (n_cb_1 l Z a0 hw hEL  zc rv h0 n0 PX PO) (hw _ (List.mem_of_getElem? (i := 126) rfl)) (hw _ (List.mem_of_getElem? (i := 7) rfl)) (by decide) (by decide) (by decide) (by decide) ?_
  intro v22 h22 hz22 hQ22
  obtain ⟨rfl, rfl⟩ := hQ22
  exact g_ret0 B d28_9 (by decide) (by decide) ⟨rfl, rfl⟩
theorem pd_28II5bB29V : parseMethodDescriptor "(II[B)V" = some ⟨[.int, .int, (.array .byte)], none⟩ := by decide +kernel
theorem d27_3 : decode jdk_52_method_47_code 3 = .ok (.invokestatic 96, 3) := by decide +kernel
theorem d27_6 : decode jdk_52_method_47_code 6 = .ok (.aload_n 0, 1) := by decide +kernel
theorem d27_7 : decode jdk_52_method_47_code 7 = .ok (.iload_n 1, 1) := by decide +kernel
theorem d27_8 : decode jdk_52_method_47_code 8 = .ok (.iload_n 2, 1) := by decide +kernel
theorem d27_9 : decode jdk_52_method_47_code 9 = .ok (.iload_n 3, 1) := by decide +kernel
theorem d32_0 : decode jdk_52_method_48_code 0 = .ok (.iload_n 2, 1) := by decide +kernel
theorem d32_1 : decode jdk_52_method_48_code 1 = .ok (.istore 4, 2) := by decide +kernel
theorem d32_3 : decode jdk_52_method_48_code 3 = .ok (.iload 4, 2) := by decide +kernel
theorem d32_5 : decode jdk_52_method_48_code 5 = .ok (.iload_n 3, 1) := by decide +kernel
theorem d32_6 : decode jdk_52_method_48_code 6 = .ok (.if_icmp .ge 22, 3) := by decide +kernel
theorem d32_9 : decode jdk_52_method_48_code 9 = .ok (.aload_n 0, 1) := by decide +kernel
theorem d32_10 : decode jdk_52_method_48_code 10 = .ok (.iload 4, 2) := by decide +kernel
theorem d32_12 : decode jdk_52_method_48_code 12 = .ok (.invokestatic 71, 3) := by decide +kernel
theorem d32_15 : decode jdk_52_method_48_code 15 = .ok (.iload_n 1, 1) := by decide +kernel
theorem d32_16 : decode jdk_52_method_48_code 16 = .ok (.if_icmp .ne 6, 3) := by decide +kernel
theorem d32_19 : decode jdk_52_method_48_code 19 = .ok (.iload 4, 2) := by decide +kernel
theorem d32_21 : decode jdk_52_method_48_code 21 = .ok (.ireturn, 1) := by decide +kernel
theorem d32_22 : decode jdk_52_method_48_code 22 = .ok (.iinc 4 1, 3) := by decide +kernel
theorem d32_25 : decode jdk_52_method_48_code 25 = .ok (.goto (-22), 3) := by decide +kernel
theorem d32_28 : decode jdk_52_method_48_code 28 = .ok (.iconst (-1), 1) := by decide +kernel
theorem d32_29 : decode jdk_52_method_48_code 29 = .ok (.ireturn, 1) := by decide +kernel
set_option maxRecDepth 65536 in
set_option maxHeartbeats 40000000 in
theorem n_u_indexOfCharUnsafe_46_1 (l : Launch) (Z : State) (a0 : Array Value) (hw : ∀ d ∈ tables_1, d.before a0 Z = true) (hEL : EW Z a0 []) (a1 : Addr) (zc : Int32) (rv : Value) (kb : ClassId) (c0 : Int32) (h0 : Heap) (n0 : Nat) (PA : Arv Z h0 a1 kb .byte (2 : Int32) [(.int (StrChars.lo8 c0)), (.int (StrChars.hi8 c0))] (.int (0 : Int32))) (hr0 : rng c0) (PX : Sts Z zc rv) (PO : Old Z n0 h0) :
    Met false Z [] l (⟨"java/lang/StringUTF16", "indexOfCharUnsafe", "([BIII)I"⟩ : MethodName) jdk_52_method_48_code 5 (some .int) ({ frames := 1, cells := 0, slots := 0, locals := 13 } : Room) #[(.ref a1), (.int (46 : Int32)), (.int (0 : Int32)), (.int (1 : Int32))] h0 [] n0 (fun v h => v = some (.int (if c0 = (46 : Int32) then (0 : Int32) else (-1 : Int32))) ∧ h0 = h) := by
  refine Met.of (a0 := a0) (Ls := #[.val (.ref a1), .val (.int (46 : Int32)), .val (.int (0 : Int32)), .val (.int (1 : Int32)), .unset]) (fun z => rfl) (plainFor_of_name pn_java_lang_StringUTF16) hEL (fun m => by first | (simp [entryFrame, mkF, argsToLocals, Value.category]; done) | rfl) ?_
  intro p e s m below meth c B hSf
  obtain ⟨SC, hzc, SA, SH, SL, SF, rf⟩ := id PX
  refine gs (mkF m 1 _ [(.int (0 : Int32))]) (fun T A t k => XS.iloadN A B.x rfl (B.d d32_0) rfl k) ?_
  refine gs (mkF m 3 #[.val (.ref a1), .val (.int (46 : Int32)), .val (.int (0 : Int32)), .val (.int (1 : Int32)), .val (.int (0 : Int32))] []) (fun T A t k => XS.istore A B.x rfl (B.d d32_1) rfl (l' := #[.val (.ref a1), .val (.int (46 : Int32)), .val (.int (0 : Int32)), .val (.int (1 : Int32)), .val (.int (0 : Int32))]) rfl k) ?_
  refine gs (mkF m 5 _ [(.int (0 : Int32))]) (fun T A t k => XS.iload A B.x rfl (B.d d32_3) rfl k) ?_
  refine gs (mkF m 6 _ [(.int (1 : Int32)), (.int (0 : Int32))]) (fun T A t k => XS.iloadN A B.x rfl (B.d d32_5) rfl k) ?_
  refine gs (mkF m 9 _ []) (fun T A t k => XS.icmpNo A B.x rfl (B.d d32_6) rfl (tlt (by decide : (0 : Int32) < (1 : Int32))).2.1 k) ?_
  refine gs (mkF m 10 _ [(.ref a1)]) (fun T A t k => XS.aloadN A B.x rfl (B.d d32_9) rfl rfl k) ?_
  refine gs (mkF m 12 _ [(.int (0 : Int32)), (.ref a1)]) (fun T A t k => XS.iload A B.x rfl (B.d d32_10) rfl k) ?_
  refine g_metN (c_static B (hw _ (List.mem_of_getElem? (i := 106) rfl)) (hw _ (List.mem_of_getElem? (i := 107) rfl)) (hw _ (List.mem_of_getElem? (i := 76) rfl)) (hw _ (List.mem_of_getElem? (i := 108) rfl)) (by decide) rfl (lenOf pd_285bBI29C rfl) rfl (Nat.le_of_eq rfl) d32_12 rfl (argsL := [(.ref a1), (.int (0 : Int32))]) (rest := []) (W := 0) (q := 15)) (n_gc_2_0 l Z a0 hw hEL a1 zc rv kb c0 h0 n0 PA hr0 PX PO) (hw _ (List.mem_of_getElem? (i := 108) rfl)) (hw _ (List.mem_of_getElem? (i := 76) rfl)) (by decide) (by decide) (by decide) (by decide) ?_
  intro v21 h21 hz21 hQ21
  obtain ⟨rfl, rfl⟩ := hQ21
  refine gs (mkF m 16 _ [(.int (46 : Int32)), (.int c0)]) (fun T A t k => XS.iloadN A B.x rfl (B.d d32_15) rfl k) ?_
  by_cases hE0 : c0 = (46 : Int32)
  · refine gs (mkF m 19 _ []) (fun T A t k => XS.icmpNo A B.x rfl (B.d d32_16) rfl (teq (hE0 : c0 = (46 : Int32))).2 k) ?_
    refine gs (mkF m 21 _ [(.int (0 : Int32))]) (fun T A t k => XS.iload A B.x rfl (B.d d32_19) rfl k) ?_
    exact g_retI B d32_21 (by decide) (by decide) ⟨by rw [if_pos hE0], rfl⟩
  · refine gs (mkF m 22 _ []) (fun T A t k => XS.icmpYes A B.x rfl (pc0 := 16) (pc' := 22) rfl (B.d d32_16) rfl (feq (hE0 : ¬ (c0 = (46 : Int32)))).2 (by decide) (by decide) k) ?_
    refine gs (mkF m 25 #[.val (.ref a1), .val (.int (46 : Int32)), .val (.int (0 : Int32)), .val (.int (1 : Int32)), .val (.int (1 : Int32))] []) (fun T A t k => XS.iinc A B.x rfl (B.d d32_22) rfl (l' := #[.val (.ref a1), .val (.int (46 : Int32)), .val (.int (0 : Int32)), .val (.int (1 : Int32)), .val (.int (1 : Int32))]) rfl k) ?_
    refine gs (mkF m 3 _ []) (fun T A t k => XS.goto A B.x rfl (pc0 := 25) (pc' := 3) rfl (B.d d32_25) (by decide) (by decide) k) ?_
    refine gs (mkF m 5 _ [(.int (1 : Int32))]) (fun T A t k => XS.iload A B.x rfl (B.d d32_3) rfl k) ?_
    refine gs (mkF m 6 _ [(.int (1 : Int32)), (.int (1 : Int32))]) (fun T A t k => XS.iloadN A B.x rfl (B.d d32_5) rfl k) ?_
    refine gs (mkF m 28 _ []) (fun T A t k => XS.icmpYes A B.x rfl (pc0 := 6) (pc' := 28) rfl (B.d d32_6) rfl (flt (by decide : ¬ ((1 : Int32) < (1 : Int32)))).2.1 (by decide) (by decide) k) ?_
    refine gs (mkF m 29 _ [(.int (-1 : Int32))]) (fun T A t k => XS.iconst A B.x rfl (B.d d32_28) k) ?_
    exact g_retI B d32_29 (by decide) (by decide) ⟨by rw [if_neg hE0], rfl⟩
theorem d27_10 : decode jdk_52_method_47_code 10 = .ok (.invokestatic 244, 3) := by decide +kernel
theorem d27_13 : decode jdk_52_method_47_code 13 = .ok (.ireturn, 1) := by decide +kernel
set_option maxRecDepth 65536 in
set_option maxHeartbeats 40000000 in
theorem n_u_indexOfChar_46_1 (l : Launch) (Z : State) (a0 : Array Value) (hw : ∀ d ∈ tables_1, d.before a0 Z = true) (hEL : EW Z a0 []) (a1 : Addr) (zc : Int32) (rv : Value) (kb : ClassId) (c0 : Int32) (h0 : Heap) (n0 : Nat) (PA : Arv Z h0 a1 kb .byte (2 : Int32) [(.int (StrChars.lo8 c0)), (.int (StrChars.hi8 c0))] (.int (0 : Int32))) (hr0 : rng c0) (PX : Sts Z zc rv) (PO : Old Z n0 h0) :
    Met false Z [] l (⟨"java/lang/StringUTF16", "indexOfChar", "([BIII)I"⟩ : MethodName) jdk_52_method_47_code 4 (some .int) ({ frames := 3, cells := 0, slots := 0, locals := 43 } : Room) #[(.ref a1), (.int (46 : Int32)), (.int (0 : Int32)), (.int (1 : Int32))] h0 [] n0 (fun v h => v = some (.int (if c0 = (46 : Int32) then (0 : Int32) else (-1 : Int32))) ∧ h0 = h) := by
  refine Met.of (a0 := a0) (Ls := #[.val (.ref a1), .val (.int (46 : Int32)), .val (.int (0 : Int32)), .val (.int (1 : Int32))]) (fun z => rfl) (plainFor_of_name pn_java_lang_StringUTF16) hEL (fun m => by first | (simp [entryFrame, mkF, argsToLocals, Value.category]; done) | rfl) ?_
  intro p e s m below meth c B hSf
  obtain ⟨SC, hzc, SA, SH, SL, SF, rf⟩ := id PX
  refine gs (mkF m 1 _ [(.int (0 : Int32))]) (fun T A t k => XS.iloadN A B.x rfl (B.d d27_0) rfl k) ?_
  refine gs (mkF m 2 _ [(.int (1 : Int32)), (.int (0 : Int32))]) (fun T A t k => XS.iloadN A B.x rfl (B.d d27_1) rfl k) ?_
  refine gs (mkF m 3 _ [(.ref a1), (.int (1 : Int32)), (.int (0 : Int32))]) (fun T A t k => XS.aloadN A B.x rfl (B.d d27_2) rfl rfl k) ?_
  refine g_metN (c_static B (hw _ (List.mem_of_getElem? (i := 118) rfl)) (hw _ (List.mem_of_getElem? (i := 119) rfl)) (hw _ (List.mem_of_getElem? (i := 76) rfl)) (hw _ (List.mem_of_getElem? (i := 120) rfl)) (by decide) rfl (lenOf pd_28II5bB29V rfl) rfl (Nat.le_of_eq rfl) d27_3 rfl (argsL := [(.int (0 : Int32)), (.int (1 : Int32)), (.ref a1)]) (rest := []) (W := 0) (q := 6)) (n_cu_2 l Z a0 hw hEL a1 zc rv kb c0 h0 n0 PA PX PO) (hw _ (List.mem_of_getElem? (i := 120) rfl)) (hw _ (List.mem_of_getElem? (i := 76) rfl)) (by decide) (by decide) (by decide) (by decide) ?_
  intro v21 h21 hz21 hQ21
  obtain ⟨rfl, rfl⟩ := hQ21
  refine gs (mkF m 7 _ [(.ref a1)]) (fun T A t k => XS.aloadN A B.x rfl (B.d d27_6) rfl rfl k) ?_
  refine gs (mkF m 8 _ [(.int (46 : Int32)), (.ref a1)]) (fun T A t k => XS.iloadN A B.x rfl (B.d d27_7) rfl k) ?_
  refine gs (mkF m 9 _ [(.int (0 : Int32)), (.int (46 : Int32)), (.ref a1)]) (fun T A t k => XS.iloadN A B.x rfl (B.d d27_8) rfl k) ?_
  refine gs (mkF m 10 _ [(.int (1 : Int32)), (.int (0 : Int32)), (.int (46 : Int32)), (.ref a1)]) (fun T A t k => XS.iloadN A B.x rfl (B.d d27_9) rfl k) ?_
  refine g_metN (c_static B (hw _ (List.mem_of_getElem? (i := 132) rfl)) (hw _ (List.mem_of_getElem? (i := 133) rfl)) (hw _ (List.mem_of_getElem? (i := 76) rfl)) (hw _ (List.mem_of_getElem? (i := 134) rfl)) (by decide) rfl (lenOf pd_285bBIII29I rfl) rfl (Nat.le_of_eq rfl) d27_10 rfl (argsL := [(.ref a1), (.int (46 : Int32)), (.int (0 : Int32)), (.int (1 : Int32))]) (rest := []) (W := 0) (q := 13)) (n_u_indexOfCharUnsafe_46_1 l Z a0 hw hEL a1 zc rv kb c0 h0 n0 PA hr0 PX PO) (hw _ (List.mem_of_getElem? (i := 134) rfl)) (hw _ (List.mem_of_getElem? (i := 76) rfl)) (by decide) (by decide) (by decide) (by decide) ?_
  intro v22 h22 hz22 hQ22
  obtain ⟨rfl, rfl⟩ := hQ22
  exact g_retI B d27_13 (by decide) (by decide) ⟨rfl, rfl⟩
theorem d26_32 : decode jdk_52_method_40_code 32 = .ok (.invokestatic 228, 3) := by decide +kernel
theorem d26_35 : decode jdk_52_method_40_code 35 = .ok (.ireturn, 1) := by decide +kernel
set_option maxRecDepth 65536 in
set_option maxHeartbeats 40000000 in
theorem n_u_indexOf_46_1 (l : Launch) (Z : State) (a0 : Array Value) (hw : ∀ d ∈ tables_1, d.before a0 Z = true) (hEL : EW Z a0 []) (a1 : Addr) (zc : Int32) (rv : Value) (kb : ClassId) (c0 : Int32) (h0 : Heap) (n0 : Nat) (PA : Arv Z h0 a1 kb .byte (2 : Int32) [(.int (StrChars.lo8 c0)), (.int (StrChars.hi8 c0))] (.int (0 : Int32))) (hr0 : rng c0) (PX : Sts Z zc rv) (PO : Old Z n0 h0) :
    Met false Z [] l (⟨"java/lang/StringUTF16", "indexOf", "([BIII)I"⟩ : MethodName) jdk_52_method_40_code 4 (some .int) ({ frames := 4, cells := 0, slots := 0, locals := 58 } : Room) #[(.ref a1), (.int (46 : Int32)), (.int (0 : Int32)), (.int (1 : Int32))] h0 [] n0 (fun v h => v = some (.int (if c0 = (46 : Int32) then (0 : Int32) else (-1 : Int32))) ∧ h0 = h) := by
  refine Met.of (a0 := a0) (Ls := #[.val (.ref a1), .val (.int (46 : Int32)), .val (.int (0 : Int32)), .val (.int (1 : Int32))]) (fun z => rfl) (plainFor_of_name pn_java_lang_StringUTF16) hEL (fun m => by first | (simp [entryFrame, mkF, argsToLocals, Value.category]; done) | rfl) ?_
  intro p e s m below meth c B hSf
  obtain ⟨SC, hzc, SA, SH, SL, SF, rf⟩ := id PX
  refine gs (mkF m 1 _ [(.int (0 : Int32))]) (fun T A t k => XS.iloadN A B.x rfl (B.d d26_0) rfl k) ?_
  refine gs (mkF m 2 _ [(.int (0 : Int32)), (.int (0 : Int32))]) (fun T A t k => XS.iconst A B.x rfl (B.d d26_1) k) ?_
  refine g_metN (c_static B (hw _ (List.mem_of_getElem? (i := 112) rfl)) (hw _ (List.mem_of_getElem? (i := 65) rfl)) (hw _ (List.mem_of_getElem? (i := 66) rfl)) (hw _ (List.mem_of_getElem? (i := 67) rfl)) (by decide) rfl (lenOf pd_28II29I rfl) rfl (Nat.le_of_eq rfl) d26_2 rfl (argsL := [(.int (0 : Int32)), (.int (0 : Int32))]) (rest := []) (W := 0) (q := 5)) (n_max_0_0 l Z a0 hw hEL  h0 n0) (hw _ (List.mem_of_getElem? (i := 67) rfl)) (hw _ (List.mem_of_getElem? (i := 66) rfl)) (by decide) (by decide) (by decide) (by decide) ?_
  intro v21 h21 hz21 hQ21
  obtain ⟨rfl, rfl⟩ := hQ21
  refine gs (mkF m 6 #[.val (.ref a1), .val (.int (46 : Int32)), .val (.int (0 : Int32)), .val (.int (1 : Int32))] []) (fun T A t k => XS.istoreN A B.x rfl (B.d d26_5) rfl (l' := #[.val (.ref a1), .val (.int (46 : Int32)), .val (.int (0 : Int32)), .val (.int (1 : Int32))]) rfl k) ?_
  refine gs (mkF m 7 _ [(.int (1 : Int32))]) (fun T A t k => XS.iloadN A B.x rfl (B.d d26_6) rfl k) ?_
  refine gs (mkF m 8 _ [(.ref a1), (.int (1 : Int32))]) (fun T A t k => XS.aloadN A B.x rfl (B.d d26_7) rfl rfl k) ?_
  refine g_len B PA d26_8 (q := 9) rfl ?_
  refine gs (mkF m 10 _ [(.int (1 : Int32)), (.int (2 : Int32)), (.int (1 : Int32))]) (fun T A t k => XS.iconst A B.x rfl (B.d d26_9) k) ?_
  refine gs (mkF m 11 _ [(.int (1 : Int32)), (.int (1 : Int32))]) (fun T A t k => XS.ishr A B.x rfl (B.d d26_10) rfl k) ?_
  refine g_metN (c_static B (hw _ (List.mem_of_getElem? (i := 113) rfl)) (hw _ (List.mem_of_getElem? (i := 69) rfl)) (hw _ (List.mem_of_getElem? (i := 66) rfl)) (hw _ (List.mem_of_getElem? (i := 70) rfl)) (by decide) rfl (lenOf pd_28II29I rfl) rfl (Nat.le_of_eq rfl) d26_11 rfl (argsL := [(.int (1 : Int32)), (.int (1 : Int32))]) (rest := []) (W := 0) (q := 14)) (n_min_1_1 l Z a0 hw hEL  h0 n0) (hw _ (List.mem_of_getElem? (i := 70) rfl)) (hw _ (List.mem_of_getElem? (i := 66) rfl)) (by decide) (by decide) (by decide) (by decide) ?_
  intro v22 h22 hz22 hQ22
  obtain ⟨rfl, rfl⟩ := hQ22
  refine gs (mkF m 15 #[.val (.ref a1), .val (.int (46 : Int32)), .val (.int (0 : Int32)), .val (.int (1 : Int32))] []) (fun T A t k => XS.istoreN A B.x rfl (B.d d26_14) rfl (l' := #[.val (.ref a1), .val (.int (46 : Int32)), .val (.int (0 : Int32)), .val (.int (1 : Int32))]) rfl k) ?_
  refine gs (mkF m 16 _ [(.int (0 : Int32))]) (fun T A t k => XS.iloadN A B.x rfl (B.d d26_15) rfl k) ?_
  refine gs (mkF m 17 _ [(.int (1 : Int32)), (.int (0 : Int32))]) (fun T A t k => XS.iloadN A B.x rfl (B.d d26_16) rfl k) ?_
  refine gs (mkF m 22 _ []) (fun T A t k => XS.icmpYes A B.x rfl (pc0 := 17) (pc' := 22) rfl (B.d d26_17) rfl (tlt (by decide : (0 : Int32) < (1 : Int32))).1 (by decide) (by decide) k) ?_
  refine gs (mkF m 23 _ [(.int (46 : Int32))]) (fun T A t k => XS.iloadN A B.x rfl (B.d d26_22) rfl k) ?_
  refine g_ldcI B (hw _ (List.mem_of_getElem? (i := 114) rfl)) d26_23 (q := 25) rfl ?_
  refine gs (mkF m 28 _ []) (fun T A t k => XS.icmpNo A B.x rfl (B.d d26_25) rfl (tlt (by decide : (46 : Int32) < (65536 : Int32))).2.1 k) ?_
  refine gs (mkF m 29 _ [(.ref a1)]) (fun T A t k => XS.aloadN A B.x rfl (B.d d26_28) rfl rfl k) ?_
  refine gs (mkF m 30 _ [(.int (46 : Int32)), (.ref a1)]) (fun T A t k => XS.iloadN A B.x rfl (B.d d26_29) rfl k) ?_
  refine gs (mkF m 31 _ [(.int (0 : Int32)), (.int (46 : Int32)), (.ref a1)]) (fun T A t k => XS.iloadN A B.x rfl (B.d d26_30) rfl k) ?_
  refine gs (mkF m 32 _ [(.int (1 : Int32)), (.int (0 : Int32)), (.int (46 : Int32)), (.ref a1)]) (fun T A t k => XS.iloadN A B.x rfl (B.d d26_31) rfl k) ?_
  refine g_metN (c_static B (hw _ (List.mem_of_getElem? (i := 115) rfl)) (hw _ (List.mem_of_getElem? (i := 116) rfl)) (hw _ (List.mem_of_getElem? (i := 76) rfl)) (hw _ (List.mem_of_getElem? (i := 117) rfl)) (by decide) rfl (lenOf pd_285bBIII29I rfl) rfl (Nat.le_of_eq rfl) d26_32 rfl (argsL := [(.ref a1), (.int (46 : Int32)), (.int (0 : Int32)), (.int (1 : Int32))]) (rest := []) (W := 0) (q := 35)) (n_u_indexOfChar_46_1 l Z a0 hw hEL a1 zc rv kb c0 h0 n0 PA hr0 PX PO) (hw _ (List.mem_of_getElem? (i := 117) rfl)) (hw _ (List.mem_of_getElem? (i := 76) rfl)) (by decide) (by decide) (by decide) (by decide) ?_
  intro v23 h23 hz23 hQ23
  obtain ⟨rfl, rfl⟩ := hQ23
  exact g_retI B d26_35 (by decide) (by decide) ⟨rfl, rfl⟩
theorem d7_33 : decode jdk_42_method_80_code 33 = .ok (.invokestatic 640, 3) := by decide +kernel
set_option maxRecDepth 65536 in
set_option maxHeartbeats 40000000 in
theorem n_idx2_46_1 (l : Launch) (Z : State) (a0 : Array Value) (hw : ∀ d ∈ tables_1, d.before a0 Z = true) (hEL : EW Z a0 []) (a1 : Addr) (zc : Int32) (rv : Value) (t : Addr) (c0 : Int32) (h0 : Heap) (n0 : Nat) (PS : Str Z h0 a1 t [c0]) (PX : Sts Z zc rv) (PO : Old Z n0 h0) :
    Met false Z [] l (⟨"java/lang/String", "indexOf", "(II)I"⟩ : MethodName) jdk_42_method_80_code 3 (some .int) ({ frames := 5, cells := 0, slots := 0, locals := 73 } : Room) #[(.ref a1), (.int (46 : Int32)), (.int (0 : Int32))] h0 [] n0 (fun v h => v = some (.int (if c0 = (46 : Int32) then (0 : Int32) else (-1 : Int32))) ∧ h0 = h) := by
  refine Met.of (a0 := a0) (Ls := #[.val (.ref a1), .val (.int (46 : Int32)), .val (.int (0 : Int32))]) (fun z => rfl) (plainFor_of_name pn_java_lang_String) hEL (fun m => by first | (simp [entryFrame, mkF, argsToLocals, Value.category]; done) | rfl) ?_
  intro p e s m below meth c B hSf
  obtain ⟨SC, hzc, SA, SH, SL, SF, rf⟩ := id PX
  obtain ⟨PE, PV, cd, N2, vs, kb, PC, PA0, hcod, hb, -⟩ := PS
  have hr0 : rng c0 := hb _ (by simp)
  rcases hcod with ⟨rfl, rfl, rfl, hlat⟩ | ⟨rfl, rfl, rfl, hwd⟩
  · have PA : Arv Z h0 t kb .byte (1 : Int32) [(.int (StrChars.lo8 c0))] (.int (0 : Int32)) := PA0
    have hl0 : ¬ (255 : Int32) < c0 := hlat _ (by simp)
    refine gs (mkF m 1 _ [(.ref a1)]) (fun T A t k => XS.aloadN A B.x rfl (B.d d7_0) rfl rfl k) ?_
    refine g_metN (c_virt B PE (hw _ (List.mem_of_getElem? (i := 41) rfl)) (hw _ (List.mem_of_getElem? (i := 42) rfl)) (hw _ (List.mem_of_getElem? (i := 44) rfl)) (hw _ (List.mem_of_getElem? (i := 43) rfl)) (nfs (z := (⟨"java/lang/String", "isLatin1", "()Z"⟩ : MethodName)) (hw _ (List.mem_of_getElem? (i := 44) rfl))) (by decide) rfl (lenOf pd_2829Z rfl) rfl (Nat.le_of_eq rfl) d7_1 rfl (argsL := []) (rest := []) (W := 0) (q := 4)) (n_isLatin1_0 l Z a0 hw hEL a1 zc rv h0 n0 PE PC PX PO) (hw _ (List.mem_of_getElem? (i := 45) rfl)) (hw _ (List.mem_of_getElem? (i := 7) rfl)) (by decide) (by decide) (by decide) (by decide) ?_
    intro v21 h21 hz21 hQ21
    obtain ⟨rfl, rfl⟩ := hQ21
    refine gs (mkF m 7 _ []) (fun T A t k => XS.ifNo A B.x rfl (B.d d7_4) rfl ((if0 _ _).trans (feq (by decide : ¬ ((1 : Int32) = (0 : Int32)))).1) k) ?_
    refine gs (mkF m 8 _ [(.ref a1)]) (fun T A t k => XS.aloadN A B.x rfl (B.d d7_7) rfl rfl k) ?_
    refine g_getF B (hw _ (List.mem_of_getElem? (i := 25) rfl)) Via.refl PV d7_8 (q := 11) rfl ?_
    refine gs (mkF m 12 _ [(.int (46 : Int32)), (.ref t)]) (fun T A t k => XS.iloadN A B.x rfl (B.d d7_11) rfl k) ?_
    refine gs (mkF m 13 _ [(.int (0 : Int32)), (.int (46 : Int32)), (.ref t)]) (fun T A t k => XS.iloadN A B.x rfl (B.d d7_12) rfl k) ?_
    refine gs (mkF m 14 _ [(.ref a1), (.int (0 : Int32)), (.int (46 : Int32)), (.ref t)]) (fun T A t k => XS.aloadN A B.x rfl (B.d d7_13) rfl rfl k) ?_
    refine g_metN (c_virt B PE (hw _ (List.mem_of_getElem? (i := 47) rfl)) (hw _ (List.mem_of_getElem? (i := 48) rfl)) (hw _ (List.mem_of_getElem? (i := 50) rfl)) (hw _ (List.mem_of_getElem? (i := 49) rfl)) (nfs (z := (⟨"java/lang/String", "length", "()I"⟩ : MethodName)) (hw _ (List.mem_of_getElem? (i := 50) rfl))) (by decide) rfl (lenOf pd_2829I rfl) rfl (Nat.le_of_eq rfl) d7_14 rfl (argsL := []) (rest := [(.int (0 : Int32)), (.int (46 : Int32)), (.ref t)]) (W := 3) (q := 17)) (n_length_1_0 l Z a0 hw hEL a1 zc rv t kb c0 h0 n0 PE PC PV PA PX PO) (hw _ (List.mem_of_getElem? (i := 51) rfl)) (hw _ (List.mem_of_getElem? (i := 7) rfl)) (by decide) (by decide) (by decide) (by decide) ?_
    intro v22 h22 hz22 hQ22
    obtain ⟨rfl, rfl⟩ := hQ22
    refine g_metN (c_static B (hw _ (List.mem_of_getElem? (i := 57) rfl)) (hw _ (List.mem_of_getElem? (i := 58) rfl)) (hw _ (List.mem_of_getElem? (i := 59) rfl)) (hw _ (List.mem_of_getElem? (i := 60) rfl)) (by decide) rfl (lenOf pd_285bBIII29I rfl) rfl (Nat.le_of_eq rfl) d7_17 rfl (argsL := [(.ref t), (.int (46 : Int32)), (.int (0 : Int32)), (.int (1 : Int32))]) (rest := []) (W := 0) (q := 20)) (n_l_indexOf_46_1 l Z a0 hw hEL t zc rv kb c0 h0 n0 PA hr0 hl0 PX PO) (hw _ (List.mem_of_getElem? (i := 60) rfl)) (hw _ (List.mem_of_getElem? (i := 59) rfl)) (by decide) (by decide) (by decide) (by decide) ?_
    intro v23 h23 hz23 hQ23
    obtain ⟨rfl, rfl⟩ := hQ23
    refine gs (mkF m 36 _ [(.int (if c0 = (46 : Int32) then (0 : Int32) else (-1 : Int32)))]) (fun T A t k => XS.goto A B.x rfl (pc0 := 20) (pc' := 36) rfl (B.d d7_20) (by decide) (by decide) k) ?_
    exact g_retI B d7_36 (by decide) (by decide) ⟨rfl, rfl⟩
  · have PA : Arv Z h0 t kb .byte (2 : Int32) [(.int (StrChars.lo8 c0)), (.int (StrChars.hi8 c0))] (.int (0 : Int32)) := PA0
    refine gs (mkF m 1 _ [(.ref a1)]) (fun T A t k => XS.aloadN A B.x rfl (B.d d7_0) rfl rfl k) ?_
    refine g_metN (c_virt B PE (hw _ (List.mem_of_getElem? (i := 41) rfl)) (hw _ (List.mem_of_getElem? (i := 42) rfl)) (hw _ (List.mem_of_getElem? (i := 44) rfl)) (hw _ (List.mem_of_getElem? (i := 43) rfl)) (nfs (z := (⟨"java/lang/String", "isLatin1", "()Z"⟩ : MethodName)) (hw _ (List.mem_of_getElem? (i := 44) rfl))) (by decide) rfl (lenOf pd_2829Z rfl) rfl (Nat.le_of_eq rfl) d7_1 rfl (argsL := []) (rest := []) (W := 0) (q := 4)) (n_isLatin1_1 l Z a0 hw hEL a1 zc rv h0 n0 PE PC PX PO) (hw _ (List.mem_of_getElem? (i := 45) rfl)) (hw _ (List.mem_of_getElem? (i := 7) rfl)) (by decide) (by decide) (by decide) (by decide) ?_
    intro v24 h24 hz24 hQ24
    obtain ⟨rfl, rfl⟩ := hQ24
    refine gs (mkF m 23 _ []) (fun T A t k => XS.ifYes A B.x rfl (pc0 := 4) (pc' := 23) rfl (B.d d7_4) rfl ((if0 _ _).trans (teq (by decide : (0 : Int32) = (0 : Int32))).1) (by decide) (by decide) k) ?_
    refine gs (mkF m 24 _ [(.ref a1)]) (fun T A t k => XS.aloadN A B.x rfl (B.d d7_23) rfl rfl k) ?_
    refine g_getF B (hw _ (List.mem_of_getElem? (i := 25) rfl)) Via.refl PV d7_24 (q := 27) rfl ?_
    refine gs (mkF m 28 _ [(.int (46 : Int32)), (.ref t)]) (fun T A t k => XS.iloadN A B.x rfl (B.d d7_27) rfl k) ?_
    refine gs (mkF m 29 _ [(.int (0 : Int32)), (.int (46 : Int32)), (.ref t)]) (fun T A t k => XS.iloadN A B.x rfl (B.d d7_28) rfl k) ?_
    refine gs (mkF m 30 _ [(.ref a1), (.int (0 : Int32)), (.int (46 : Int32)), (.ref t)]) (fun T A t k => XS.aloadN A B.x rfl (B.d d7_29) rfl rfl k) ?_
    refine g_metN (c_virt B PE (hw _ (List.mem_of_getElem? (i := 47) rfl)) (hw _ (List.mem_of_getElem? (i := 48) rfl)) (hw _ (List.mem_of_getElem? (i := 50) rfl)) (hw _ (List.mem_of_getElem? (i := 49) rfl)) (nfs (z := (⟨"java/lang/String", "length", "()I"⟩ : MethodName)) (hw _ (List.mem_of_getElem? (i := 50) rfl))) (by decide) rfl (lenOf pd_2829I rfl) rfl (Nat.le_of_eq rfl) d7_30 rfl (argsL := []) (rest := [(.int (0 : Int32)), (.int (46 : Int32)), (.ref t)]) (W := 3) (q := 33)) (n_length_2_1 l Z a0 hw hEL a1 zc rv t kb c0 h0 n0 PE PC PV PA PX PO) (hw _ (List.mem_of_getElem? (i := 51) rfl)) (hw _ (List.mem_of_getElem? (i := 7) rfl)) (by decide) (by decide) (by decide) (by decide) ?_
    intro v25 h25 hz25 hQ25
    obtain ⟨rfl, rfl⟩ := hQ25
    refine g_metN (c_static B (hw _ (List.mem_of_getElem? (i := 109) rfl)) (hw _ (List.mem_of_getElem? (i := 110) rfl)) (hw _ (List.mem_of_getElem? (i := 76) rfl)) (hw _ (List.mem_of_getElem? (i := 111) rfl)) (by decide) rfl (lenOf pd_285bBIII29I rfl) rfl (Nat.le_of_eq rfl) d7_33 rfl (argsL := [(.ref t), (.int (46 : Int32)), (.int (0 : Int32)), (.int (1 : Int32))]) (rest := []) (W := 0) (q := 36)) (n_u_indexOf_46_1 l Z a0 hw hEL t zc rv kb c0 h0 n0 PA hr0 PX PO) (hw _ (List.mem_of_getElem? (i := 111) rfl)) (hw _ (List.mem_of_getElem? (i := 76) rfl)) (by decide) (by decide) (by decide) (by decide) ?_
    intro v26 h26 hz26 hQ26
    obtain ⟨rfl, rfl⟩ := hQ26
    exact g_retI B d7_36 (by decide) (by decide) ⟨rfl, rfl⟩
set_option maxRecDepth 65536 in
set_option maxHeartbeats 40000000 in
theorem n_idx1_46_1 (l : Launch) (Z : State) (a0 : Array Value) (hw : ∀ d ∈ tables_1, d.before a0 Z = true) (hEL : EW Z a0 []) (a1 : Addr) (zc : Int32) (rv : Value) (t : Addr) (c0 : Int32) (h0 : Heap) (n0 : Nat) (PS : Str Z h0 a1 t [c0]) (PX : Sts Z zc rv) (PO : Old Z n0 h0) :
    Met false Z [] l (⟨"java/lang/String", "indexOf", "(I)I"⟩ : MethodName) jdk_42_method_79_code 2 (some .int) ({ frames := 6, cells := 0, slots := 0, locals := 87 } : Room) #[(.ref a1), (.int (46 : Int32))] h0 [] n0 (fun v h => v = some (.int (if c0 = (46 : Int32) then (0 : Int32) else (-1 : Int32))) ∧ h0 = h) := by
  refine Met.of (a0 := a0) (Ls := #[.val (.ref a1), .val (.int (46 : Int32))]) (fun z => rfl) (plainFor_of_name pn_java_lang_String) hEL (fun m => by first | (simp [entryFrame, mkF, argsToLocals, Value.category]; done) | rfl) ?_
  intro p e s m below meth c B hSf
  obtain ⟨SC, hzc, SA, SH, SL, SF, rf⟩ := id PX
  refine gs (mkF m 1 _ [(.ref a1)]) (fun T A t k => XS.aloadN A B.x rfl (B.d d6_0) rfl rfl k) ?_
  refine gs (mkF m 2 _ [(.int (46 : Int32)), (.ref a1)]) (fun T A t k => XS.iloadN A B.x rfl (B.d d6_1) rfl k) ?_
  refine gs (mkF m 3 _ [(.int (0 : Int32)), (.int (46 : Int32)), (.ref a1)]) (fun T A t k => XS.iconst A B.x rfl (B.d d6_2) k) ?_
  refine g_metN (c_virt B PS.exa (hw _ (List.mem_of_getElem? (i := 36) rfl)) (hw _ (List.mem_of_getElem? (i := 37) rfl)) (hw _ (List.mem_of_getElem? (i := 39) rfl)) (hw _ (List.mem_of_getElem? (i := 38) rfl)) (nfs (z := (⟨"java/lang/String", "indexOf", "(II)I"⟩ : MethodName)) (hw _ (List.mem_of_getElem? (i := 39) rfl))) (by decide) rfl (lenOf pd_28II29I rfl) rfl (Nat.le_of_eq rfl) d6_3 rfl (argsL := [(.int (46 : Int32)), (.int (0 : Int32))]) (rest := []) (W := 0) (q := 6)) (n_idx2_46_1 l Z a0 hw hEL a1 zc rv t c0 h0 n0 PS PX PO) (hw _ (List.mem_of_getElem? (i := 40) rfl)) (hw _ (List.mem_of_getElem? (i := 7) rfl)) (by decide) (by decide) (by decide) (by decide) ?_
  intro v21 h21 hz21 hQ21
  obtain ⟨rfl, rfl⟩ := hQ21
  exact g_retI B d6_6 (by decide) (by decide) ⟨rfl, rfl⟩
theorem d5_20 : decode prog_11_method_7_code 20 = .ok (.iconst 0, 1) := by decide +kernel
set_option maxRecDepth 65536 in
set_option maxHeartbeats 40000000 in
theorem n_l_indexOfChar_64_1 (l : Launch) (Z : State) (a0 : Array Value) (hw : ∀ d ∈ tables_1, d.before a0 Z = true) (hEL : EW Z a0 []) (a1 : Addr) (zc : Int32) (rv : Value) (kb : ClassId) (c0 : Int32) (h0 : Heap) (n0 : Nat) (PA : Arv Z h0 a1 kb .byte (1 : Int32) [(.int (StrChars.lo8 c0))] (.int (0 : Int32))) (hr0 : rng c0) (hl0 : ¬ (255 : Int32) < c0) (PX : Sts Z zc rv) (PO : Old Z n0 h0) :
    Met false Z [] l (⟨"java/lang/StringLatin1", "indexOfChar", "([BIII)I"⟩ : MethodName) jdk_43_method_23_code 6 (some .int) ({ frames := 0, cells := 0, slots := 0, locals := 0 } : Room) #[(.ref a1), (.int (64 : Int32)), (.int (0 : Int32)), (.int (1 : Int32))] h0 [] n0 (fun v h => v = some (.int (if c0 = (64 : Int32) then (0 : Int32) else (-1 : Int32))) ∧ h0 = h) := by
  refine Met.of (a0 := a0) (Ls := #[.val (.ref a1), .val (.int (64 : Int32)), .val (.int (0 : Int32)), .val (.int (1 : Int32)), .unset, .unset]) (fun z => rfl) (plainFor_of_name pn_java_lang_StringLatin1) hEL (fun m => by first | (simp [entryFrame, mkF, argsToLocals, Value.category]; done) | rfl) ?_
  intro p e s m below meth c B hSf
  obtain ⟨SC, hzc, SA, SH, SL, SF, rf⟩ := id PX
  refine gs (mkF m 1 _ [(.int (64 : Int32))]) (fun T A t k => XS.iloadN A B.x rfl (B.d d20_0) rfl k) ?_
  refine gs (mkF m 2 _ [(.int (64 : Int32))]) (fun T A t k => XS.i2b A B.x rfl (B.d d20_1) rfl k) ?_
  refine gs (mkF m 4 #[.val (.ref a1), .val (.int (64 : Int32)), .val (.int (0 : Int32)), .val (.int (1 : Int32)), .val (.int (64 : Int32)), .unset] []) (fun T A t k => XS.istore A B.x rfl (B.d d20_2) rfl (l' := #[.val (.ref a1), .val (.int (64 : Int32)), .val (.int (0 : Int32)), .val (.int (1 : Int32)), .val (.int (64 : Int32)), .unset]) rfl k) ?_
  refine gs (mkF m 5 _ [(.int (0 : Int32))]) (fun T A t k => XS.iloadN A B.x rfl (B.d d20_4) rfl k) ?_
  refine gs (mkF m 7 #[.val (.ref a1), .val (.int (64 : Int32)), .val (.int (0 : Int32)), .val (.int (1 : Int32)), .val (.int (64 : Int32)), .val (.int (0 : Int32))] []) (fun T A t k => XS.istore A B.x rfl (B.d d20_5) rfl (l' := #[.val (.ref a1), .val (.int (64 : Int32)), .val (.int (0 : Int32)), .val (.int (1 : Int32)), .val (.int (64 : Int32)), .val (.int (0 : Int32))]) rfl k) ?_
  refine gs (mkF m 9 _ [(.int (0 : Int32))]) (fun T A t k => XS.iload A B.x rfl (B.d d20_7) rfl k) ?_
  refine gs (mkF m 10 _ [(.int (1 : Int32)), (.int (0 : Int32))]) (fun T A t k => XS.iloadN A B.x rfl (B.d d20_9) rfl k) ?_
  refine gs (mkF m 13 _ []) (fun T A t k => XS.icmpNo A B.x rfl (B.d d20_10) rfl (tlt (by decide : (0 : Int32) < (1 : Int32))).2.1 k) ?_
  refine gs (mkF m 14 _ [(.ref a1)]) (fun T A t k => XS.aloadN A B.x rfl (B.d d20_13) rfl rfl k) ?_
  refine gs (mkF m 16 _ [(.int (0 : Int32)), (.ref a1)]) (fun T A t k => XS.iload A B.x rfl (B.d d20_14) rfl k) ?_
  refine g_ldB B PA ⟨by decide, by decide⟩ (v := (.int (StrChars.lo8 c0))) rfl d20_16 (q := 17) rfl ?_
  refine gs (mkF m 19 _ [(.int (64 : Int32)), (.int (StrChars.lo8 c0))]) (fun T A t k => XS.iload A B.x rfl (B.d d20_17) rfl k) ?_
  by_cases hE0 : c0 = (64 : Int32)
  · refine gs (mkF m 22 _ []) (fun T A t k => XS.icmpNo A B.x rfl (B.d d20_19) rfl (teq ((by rw [hE0]; exact lo_64) : (StrChars.lo8 c0) = (64 : Int32))).2 k) ?_
    refine gs (mkF m 24 _ [(.int (0 : Int32))]) (fun T A t k => XS.iload A B.x rfl (B.d d20_22) rfl k) ?_
    exact g_retI B d20_24 (by decide) (by decide) ⟨by rw [if_pos hE0], rfl⟩
  · refine gs (mkF m 25 _ []) (fun T A t k => XS.icmpYes A B.x rfl (pc0 := 19) (pc' := 25) rfl (B.d d20_19) rfl (feq ((fun e => hE0 (lo_eq64 hr0.1 hl0 e)) : ¬ ((StrChars.lo8 c0) = (64 : Int32)))).2 (by decide) (by decide) k) ?_
    refine gs (mkF m 28 #[.val (.ref a1), .val (.int (64 : Int32)), .val (.int (0 : Int32)), .val (.int (1 : Int32)), .val (.int (64 : Int32)), .val (.int (1 : Int32))] []) (fun T A t k => XS.iinc A B.x rfl (B.d d20_25) rfl (l' := #[.val (.ref a1), .val (.int (64 : Int32)), .val (.int (0 : Int32)), .val (.int (1 : Int32)), .val (.int (64 : Int32)), .val (.int (1 : Int32))]) rfl k) ?_
    refine gs (mkF m 7 _ []) (fun T A t k => XS.goto A B.x rfl (pc0 := 28) (pc' := 7) rfl (B.d d20_28) (by decide) (by decide) k) ?_
    refine gs (mkF m 9 _ [(.int (1 : Int32))]) (fun T A t k => XS.iload A B.x rfl (B.d d20_7) rfl k) ?_
    refine gs (mkF m 10 _ [(.int (1 : Int32)), (.int (1 : Int32))]) (fun T A t k => XS.iloadN A B.x rfl (B.d d20_9) rfl k) ?_
    refine gs (mkF m 31 _ []) (fun T A t k => XS.icmpYes A B.x rfl (pc0 := 10) (pc' := 31) rfl (B.d d20_10) rfl (flt (by decide : ¬ ((1 : Int32) < (1 : Int32)))).2.1 (by decide) (by decide) k) ?_
    refine gs (mkF m 32 _ [(.int (-1 : Int32))]) (fun T A t k => XS.iconst A B.x rfl (B.d d20_31) k) ?_
    exact g_retI B d20_32 (by decide) (by decide) ⟨by rw [if_neg hE0], rfl⟩
set_option maxRecDepth 65536 in
set_option maxHeartbeats 40000000 in
theorem n_l_indexOf_64_1 (l : Launch) (Z : State) (a0 : Array Value) (hw : ∀ d ∈ tables_1, d.before a0 Z = true) (hEL : EW Z a0 []) (a1 : Addr) (zc : Int32) (rv : Value) (kb : ClassId) (c0 : Int32) (h0 : Heap) (n0 : Nat) (PA : Arv Z h0 a1 kb .byte (1 : Int32) [(.int (StrChars.lo8 c0))] (.int (0 : Int32))) (hr0 : rng c0) (hl0 : ¬ (255 : Int32) < c0) (PX : Sts Z zc rv) (PO : Old Z n0 h0) :
    Met false Z [] l (⟨"java/lang/StringLatin1", "indexOf", "([BIII)I"⟩ : MethodName) jdk_43_method_22_code 4 (some .int) ({ frames := 1, cells := 0, slots := 0, locals := 17 } : Room) #[(.ref a1), (.int (64 : Int32)), (.int (0 : Int32)), (.int (1 : Int32))] h0 [] n0 (fun v h => v = some (.int (if c0 = (64 : Int32) then (0 : Int32) else (-1 : Int32))) ∧ h0 = h) := by
  refine Met.of (a0 := a0) (Ls := #[.val (.ref a1), .val (.int (64 : Int32)), .val (.int (0 : Int32)), .val (.int (1 : Int32))]) (fun z => rfl) (plainFor_of_name pn_java_lang_StringLatin1) hEL (fun m => by first | (simp [entryFrame, mkF, argsToLocals, Value.category]; done) | rfl) ?_
  intro p e s m below meth c B hSf
  obtain ⟨SC, hzc, SA, SH, SL, SF, rf⟩ := id PX
  refine gs (mkF m 1 _ [(.int (64 : Int32))]) (fun T A t k => XS.iloadN A B.x rfl (B.d d11_0) rfl k) ?_
  refine g_metN (c_static B (hw _ (List.mem_of_getElem? (i := 61) rfl)) (hw _ (List.mem_of_getElem? (i := 62) rfl)) (hw _ (List.mem_of_getElem? (i := 59) rfl)) (hw _ (List.mem_of_getElem? (i := 63) rfl)) (by decide) rfl (lenOf pd_28I29Z rfl) rfl (Nat.le_of_eq rfl) d11_1 rfl (argsL := [(.int (64 : Int32))]) (rest := []) (W := 0) (q := 4)) (n_ce_64 l Z a0 hw hEL  h0 n0) (hw _ (List.mem_of_getElem? (i := 63) rfl)) (hw _ (List.mem_of_getElem? (i := 59) rfl)) (by decide) (by decide) (by decide) (by decide) ?_
  intro v21 h21 hz21 hQ21
  obtain ⟨rfl, rfl⟩ := hQ21
  refine gs (mkF m 9 _ []) (fun T A t k => XS.ifYes A B.x rfl (pc0 := 4) (pc' := 9) rfl (B.d d11_4) rfl ((if0 _ _).trans (feq (by decide : ¬ ((1 : Int32) = (0 : Int32)))).2) (by decide) (by decide) k) ?_
  refine gs (mkF m 10 _ [(.int (0 : Int32))]) (fun T A t k => XS.iloadN A B.x rfl (B.d d11_9) rfl k) ?_
  refine gs (mkF m 11 _ [(.int (0 : Int32)), (.int (0 : Int32))]) (fun T A t k => XS.iconst A B.x rfl (B.d d11_10) k) ?_
  refine g_metN (c_static B (hw _ (List.mem_of_getElem? (i := 64) rfl)) (hw _ (List.mem_of_getElem? (i := 65) rfl)) (hw _ (List.mem_of_getElem? (i := 66) rfl)) (hw _ (List.mem_of_getElem? (i := 67) rfl)) (by decide) rfl (lenOf pd_28II29I rfl) rfl (Nat.le_of_eq rfl) d11_11 rfl (argsL := [(.int (0 : Int32)), (.int (0 : Int32))]) (rest := []) (W := 0) (q := 14)) (n_max_0_0 l Z a0 hw hEL  h0 n0) (hw _ (List.mem_of_getElem? (i := 67) rfl)) (hw _ (List.mem_of_getElem? (i := 66) rfl)) (by decide) (by decide) (by decide) (by decide) ?_
  intro v22 h22 hz22 hQ22
  obtain ⟨rfl, rfl⟩ := hQ22
  refine gs (mkF m 15 #[.val (.ref a1), .val (.int (64 : Int32)), .val (.int (0 : Int32)), .val (.int (1 : Int32))] []) (fun T A t k => XS.istoreN A B.x rfl (B.d d11_14) rfl (l' := #[.val (.ref a1), .val (.int (64 : Int32)), .val (.int (0 : Int32)), .val (.int (1 : Int32))]) rfl k) ?_
  refine gs (mkF m 16 _ [(.int (1 : Int32))]) (fun T A t k => XS.iloadN A B.x rfl (B.d d11_15) rfl k) ?_
  refine gs (mkF m 17 _ [(.ref a1), (.int (1 : Int32))]) (fun T A t k => XS.aloadN A B.x rfl (B.d d11_16) rfl rfl k) ?_
  refine g_len B PA d11_17 (q := 18) rfl ?_
  refine g_metN (c_static B (hw _ (List.mem_of_getElem? (i := 68) rfl)) (hw _ (List.mem_of_getElem? (i := 69) rfl)) (hw _ (List.mem_of_getElem? (i := 66) rfl)) (hw _ (List.mem_of_getElem? (i := 70) rfl)) (by decide) rfl (lenOf pd_28II29I rfl) rfl (Nat.le_of_eq rfl) d11_18 rfl (argsL := [(.int (1 : Int32)), (.int (1 : Int32))]) (rest := []) (W := 0) (q := 21)) (n_min_1_1 l Z a0 hw hEL  h0 n0) (hw _ (List.mem_of_getElem? (i := 70) rfl)) (hw _ (List.mem_of_getElem? (i := 66) rfl)) (by decide) (by decide) (by decide) (by decide) ?_
  intro v23 h23 hz23 hQ23
  obtain ⟨rfl, rfl⟩ := hQ23
  refine gs (mkF m 22 #[.val (.ref a1), .val (.int (64 : Int32)), .val (.int (0 : Int32)), .val (.int (1 : Int32))] []) (fun T A t k => XS.istoreN A B.x rfl (B.d d11_21) rfl (l' := #[.val (.ref a1), .val (.int (64 : Int32)), .val (.int (0 : Int32)), .val (.int (1 : Int32))]) rfl k) ?_
  refine gs (mkF m 23 _ [(.int (0 : Int32))]) (fun T A t k => XS.iloadN A B.x rfl (B.d d11_22) rfl k) ?_
  refine gs (mkF m 24 _ [(.int (1 : Int32)), (.int (0 : Int32))]) (fun T A t k => XS.iloadN A B.x rfl (B.d d11_23) rfl k) ?_
  refine gs (mkF m 29 _ []) (fun T A t k => XS.icmpYes A B.x rfl (pc0 := 24) (pc' := 29) rfl (B.d d11_24) rfl (tlt (by decide : (0 : Int32) < (1 : Int32))).1 (by decide) (by decide) k) ?_
  refine gs (mkF m 30 _ [(.ref a1)]) (fun T A t k => XS.aloadN A B.x rfl (B.d d11_29) rfl rfl k) ?_
  refine gs (mkF m 31 _ [(.int (64 : Int32)), (.ref a1)]) (fun T A t k => XS.iloadN A B.x rfl (B.d d11_30) rfl k) ?_
  refine gs (mkF m 32 _ [(.int (0 : Int32)), (.int (64 : Int32)), (.ref a1)]) (fun T A t k => XS.iloadN A B.x rfl (B.d d11_31) rfl k) ?_
  refine gs (mkF m 33 _ [(.int (1 : Int32)), (.int (0 : Int32)), (.int (64 : Int32)), (.ref a1)]) (fun T A t k => XS.iloadN A B.x rfl (B.d d11_32) rfl k) ?_
  refine g_metN (c_static B (hw _ (List.mem_of_getElem? (i := 87) rfl)) (hw _ (List.mem_of_getElem? (i := 88) rfl)) (hw _ (List.mem_of_getElem? (i := 59) rfl)) (hw _ (List.mem_of_getElem? (i := 89) rfl)) (by decide) rfl (lenOf pd_285bBIII29I rfl) rfl (Nat.le_of_eq rfl) d11_33 rfl (argsL := [(.ref a1), (.int (64 : Int32)), (.int (0 : Int32)), (.int (1 : Int32))]) (rest := []) (W := 0) (q := 36)) (n_l_indexOfChar_64_1 l Z a0 hw hEL a1 zc rv kb c0 h0 n0 PA hr0 hl0 PX PO) (hw _ (List.mem_of_getElem? (i := 89) rfl)) (hw _ (List.mem_of_getElem? (i := 59) rfl)) (by decide) (by decide) (by decide) (by decide) ?_
  intro v24 h24 hz24 hQ24
  obtain ⟨rfl, rfl⟩ := hQ24
  exact g_retI B d11_36 (by decide) (by decide) ⟨rfl, rfl⟩
set_option maxRecDepth 65536 in
set_option maxHeartbeats 40000000 in
theorem n_u_indexOfCharUnsafe_64_1 (l : Launch) (Z : State) (a0 : Array Value) (hw : ∀ d ∈ tables_1, d.before a0 Z = true) (hEL : EW Z a0 []) (a1 : Addr) (zc : Int32) (rv : Value) (kb : ClassId) (c0 : Int32) (h0 : Heap) (n0 : Nat) (PA : Arv Z h0 a1 kb .byte (2 : Int32) [(.int (StrChars.lo8 c0)), (.int (StrChars.hi8 c0))] (.int (0 : Int32))) (hr0 : rng c0) (PX : Sts Z zc rv) (PO : Old Z n0 h0) :
    Met false Z [] l (⟨"java/lang/StringUTF16", "indexOfCharUnsafe", "([BIII)I"⟩ : MethodName) jdk_52_method_48_code 5 (some .int) ({ frames := 1, cells := 0, slots := 0, locals := 13 } : Room) #[(.ref a1), (.int (64 : Int32)), (.int (0 : Int32)), (.int (1 : Int32))] h0 [] n0 (fun v h => v = some (.int (if c0 = (64 : Int32) then (0 : Int32) else (-1 : Int32))) ∧ h0 = h) := by
  refine Met.of (a0 := a0) (Ls := #[.val (.ref a1), .val (.int (64 : Int32)), .val (.int (0 : Int32)), .val (.int (1 : Int32)), .unset]) (fun z => rfl) (plainFor_of_name pn_java_lang_StringUTF16) hEL (fun m => by first | (simp [entryFrame, mkF, argsToLocals, Value.category]; done) | rfl) ?_
  intro p e s m below meth c B hSf
  obtain ⟨SC, hzc, SA, SH, SL, SF, rf⟩ := id PX
  refine gs (mkF m 1 _ [(.int (0 : Int32))]) (fun T A t k => XS.iloadN A B.x rfl (B.d d32_0) rfl k) ?_
  refine gs (mkF m 3 #[.val (.ref a1), .val (.int (64 : Int32)), .val (.int (0 : Int32)), .val (.int (1 : Int32)), .val (.int (0 : Int32))] []) (fun T A t k => XS.istore A B.x rfl (B.d d32_1) rfl (l' := #[.val (.ref a1), .val (.int (64 : Int32)), .val (.int (0 : Int32)), .val (.int (1 : Int32)), .val (.int (0 : Int32))]) rfl k) ?_
  refine gs (mkF m 5 _ [(.int (0 : Int32))]) (fun T A t k => XS.iload A B.x rfl (B.d d32_3) rfl k) ?_
  refine gs (mkF m 6 _ [(.int (1 : Int32)), (.int (0 : Int32))]) (fun T A t k => XS.iloadN A B.x rfl (B.d d32_5) rfl k) ?_
  refine gs (mkF m 9 _ []) (fun T A t k => XS.icmpNo A B.x rfl (B.d d32_6) rfl (tlt (by decide : (0 : Int32) < (1 : Int32))).2.1 k) ?_
  refine gs (mkF m 10 _ [(.ref a1)]) (fun T A t k => XS.aloadN A B.x rfl (B.d d32_9) rfl rfl k) ?_
  refine gs (mkF m 12 _ [(.int (0 : Int32)), (.ref a1)]) (fun T A t k => XS.iload A B.x rfl (B.d d32_10) rfl k) ?_
  refine g_metN (c_static B (hw _ (List.mem_of_getElem? (i := 106) rfl)) (hw _ (List.mem_of_getElem? (i := 107) rfl)) (hw _ (List.mem_of_getElem? (i := 76) rfl)) (hw _ (List.mem_of_getElem? (i := 108) rfl)) (by decide) rfl (lenOf pd_285bBI29C rfl) rfl (Nat.le_of_eq rfl) d32_12 rfl (argsL := [(.ref a1), (.int (0 : Int32))]) (rest := []) (W := 0) (q := 15)) (n_gc_2_0 l Z a0 hw hEL a1 zc rv kb c0 h0 n0 PA hr0 PX PO) (hw _ (List.mem_of_getElem? (i := 108) rfl)) (hw _ (List.mem_of_getElem? (i := 76) rfl)) (by decide) (by decide) (by decide) (by decide) ?_
  intro v21 h21 hz21 hQ21
  obtain ⟨rfl, rfl⟩ := hQ21
  refine gs (mkF m 16 _ [(.int (64 : Int32)), (.int c0)]) (fun T A t k => XS.iloadN A B.x rfl (B.d d32_15) rfl k) ?_
  by_cases hE0 : c0 = (64 : Int32)
  · refine gs (mkF m 19 _ []) (fun T A t k => XS.icmpNo A B.x rfl (B.d d32_16) rfl (teq (hE0 : c0 = (64 : Int32))).2 k) ?_
    refine gs (mkF m 21 _ [(.int (0 : Int32))]) (fun T A t k => XS.iload A B.x rfl (B.d d32_19) rfl k) ?_
    exact g_retI B d32_21 (by decide) (by decide) ⟨by rw [if_pos hE0], rfl⟩
  · refine gs (mkF m 22 _ []) (fun T A t k => XS.icmpYes A B.x rfl (pc0 := 16) (pc' := 22) rfl (B.d d32_16) rfl (feq (hE0 : ¬ (c0 = (64 : Int32)))).2 (by decide) (by decide) k) ?_
    refine gs (mkF m 25 #[.val (.ref a1), .val (.int (64 : Int32)), .val (.int (0 : Int32)), .val (.int (1 : Int32)), .val (.int (1 : Int32))] []) (fun T A t k => XS.iinc A B.x rfl (B.d d32_22) rfl (l' := #[.val (.ref a1), .val (.int (64 : Int32)), .val (.int (0 : Int32)), .val (.int (1 : Int32)), .val (.int (1 : Int32))]) rfl k) ?_
    refine gs (mkF m 3 _ []) (fun T A t k => XS.goto A B.x rfl (pc0 := 25) (pc' := 3) rfl (B.d d32_25) (by decide) (by decide) k) ?_
    refine gs (mkF m 5 _ [(.int (1 : Int32))]) (fun T A t k => XS.iload A B.x rfl (B.d d32_3) rfl k) ?_
    refine gs (mkF m 6 _ [(.int (1 : Int32)), (.int (1 : Int32))]) (fun T A t k => XS.iloadN A B.x rfl (B.d d32_5) rfl k) ?_
    refine gs (mkF m 28 _ []) (fun T A t k => XS.icmpYes A B.x rfl (pc0 := 6) (pc' := 28) rfl (B.d d32_6) rfl (flt (by decide : ¬ ((1 : Int32) < (1 : Int32)))).2.1 (by decide) (by decide) k) ?_
    refine gs (mkF m 29 _ [(.int (-1 : Int32))]) (fun T A t k => XS.iconst A B.x rfl (B.d d32_28) k) ?_
    exact g_retI B d32_29 (by decide) (by decide) ⟨by rw [if_neg hE0], rfl⟩
set_option maxRecDepth 65536 in
set_option maxHeartbeats 40000000 in
theorem n_u_indexOfChar_64_1 (l : Launch) (Z : State) (a0 : Array Value) (hw : ∀ d ∈ tables_1, d.before a0 Z = true) (hEL : EW Z a0 []) (a1 : Addr) (zc : Int32) (rv : Value) (kb : ClassId) (c0 : Int32) (h0 : Heap) (n0 : Nat) (PA : Arv Z h0 a1 kb .byte (2 : Int32) [(.int (StrChars.lo8 c0)), (.int (StrChars.hi8 c0))] (.int (0 : Int32))) (hr0 : rng c0) (PX : Sts Z zc rv) (PO : Old Z n0 h0) :
    Met false Z [] l (⟨"java/lang/StringUTF16", "indexOfChar", "([BIII)I"⟩ : MethodName) jdk_52_method_47_code 4 (some .int) ({ frames := 3, cells := 0, slots := 0, locals := 43 } : Room) #[(.ref a1), (.int (64 : Int32)), (.int (0 : Int32)), (.int (1 : Int32))] h0 [] n0 (fun v h => v = some (.int (if c0 = (64 : Int32) then (0 : Int32) else (-1 : Int32))) ∧ h0 = h) := by
  refine Met.of (a0 := a0) (Ls := #[.val (.ref a1), .val (.int (64 : Int32)), .val (.int (0 : Int32)), .val (.int (1 : Int32))]) (fun z => rfl) (plainFor_of_name pn_java_lang_StringUTF16) hEL (fun m => by first | (simp [entryFrame, mkF, argsToLocals, Value.category]; done) | rfl) ?_
  intro p e s m below meth c B hSf
  obtain ⟨SC, hzc, SA, SH, SL, SF, rf⟩ := id PX
  refine gs (mkF m 1 _ [(.int (0 : Int32))]) (fun T A t k => XS.iloadN A B.x rfl (B.d d27_0) rfl k) ?_
  refine gs (mkF m 2 _ [(.int (1 : Int32)), (.int (0 : Int32))]) (fun T A t k => XS.iloadN A B.x rfl (B.d d27_1) rfl k) ?_
  refine gs (mkF m 3 _ [(.ref a1), (.int (1 : Int32)), (.int (0 : Int32))]) (fun T A t k => XS.aloadN A B.x rfl (B.d d27_2) rfl rfl k) ?_
  refine g_metN (c_static B (hw _ (List.mem_of_getElem? (i := 118) rfl)) (hw _ (List.mem_of_getElem? (i := 119) rfl)) (hw _ (List.mem_of_getElem? (i := 76) rfl)) (hw _ (List.mem_of_getElem? (i := 120) rfl)) (by decide) rfl (lenOf pd_28II5bB29V rfl) rfl (Nat.le_of_eq rfl) d27_3 rfl (argsL := [(.int (0 : Int32)), (.int (1 : Int32)), (.ref a1)]) (rest := []) (W := 0) (q := 6)) (n_cu_2 l Z a0 hw hEL a1 zc rv kb c0 h0 n0 PA PX PO) (hw _ (List.mem_of_getElem? (i := 120) rfl)) (hw _ (List.mem_of_getElem? (i := 76) rfl)) (by decide) (by decide) (by decide) (by decide) ?_
  intro v21 h21 hz21 hQ21
  obtain ⟨rfl, rfl⟩ := hQ21
  refine gs (mkF m 7 _ [(.ref a1)]) (fun T A t k => XS.aloadN A B.x rfl (B.d d27_6) rfl rfl k) ?_
  refine gs (mkF m 8 _ [(.int (64 : Int32)), (.ref a1)]) (fun T A t k => XS.iloadN A B.x rfl (B.d d27_7) rfl k) ?_
  refine gs (mkF m 9 _ [(.int (0 : Int32)), (.int (64 : Int32)), (.ref a1)]) (fun T A t k => XS.iloadN A B.x rfl (B.d d27_8) rfl k) ?_
  refine gs (mkF m 10 _ [(.int (1 : Int32)), (.int (0 : Int32)), (.int (64 : Int32)), (.ref a1)]) (fun T A t k => XS.iloadN A B.x rfl (B.d d27_9) rfl k) ?_
  refine g_metN (c_static B (hw _ (List.mem_of_getElem? (i := 132) rfl)) (hw _ (List.mem_of_getElem? (i := 133) rfl)) (hw _ (List.mem_of_getElem? (i := 76) rfl)) (hw _ (List.mem_of_getElem? (i := 134) rfl)) (by decide) rfl (lenOf pd_285bBIII29I rfl) rfl (Nat.le_of_eq rfl) d27_10 rfl (argsL := [(.ref a1), (.int (64 : Int32)), (.int (0 : Int32)), (.int (1 : Int32))]) (rest := []) (W := 0) (q := 13)) (n_u_indexOfCharUnsafe_64_1 l Z a0 hw hEL a1 zc rv kb c0 h0 n0 PA hr0 PX PO) (hw _ (List.mem_of_getElem? (i := 134) rfl)) (hw _ (List.mem_of_getElem? (i := 76) rfl)) (by decide) (by decide) (by decide) (by decide) ?_
  intro v22 h22 hz22 hQ22
  obtain ⟨rfl, rfl⟩ := hQ22
  exact g_retI B d27_13 (by decide) (by decide) ⟨rfl, rfl⟩
set_option maxRecDepth 65536 in
set_option maxHeartbeats 40000000 in
theorem n_u_indexOf_64_1 (l : Launch) (Z : State) (a0 : Array Value) (hw : ∀ d ∈ tables_1, d.before a0 Z = true) (hEL : EW Z a0 []) (a1 : Addr) (zc : Int32) (rv : Value) (kb : ClassId) (c0 : Int32) (h0 : Heap) (n0 : Nat) (PA : Arv Z h0 a1 kb .byte (2 : Int32) [(.int (StrChars.lo8 c0)), (.int (StrChars.hi8 c0))] (.int (0 : Int32))) (hr0 : rng c0) (PX : Sts Z zc rv) (PO : Old Z n0 h0) :
    Met false Z [] l (⟨"java/lang/StringUTF16", "indexOf", "([BIII)I"⟩ : MethodName) jdk_52_method_40_code 4 (some .int) ({ frames := 4, cells := 0, slots := 0, locals := 58 } : Room) #[(.ref a1), (.int (64 : Int32)), (.int (0 : Int32)), (.int (1 : Int32))] h0 [] n0 (fun v h => v = some (.int (if c0 = (64 : Int32) then (0 : Int32) else (-1 : Int32))) ∧ h0 = h) := by
  refine Met.of (a0 := a0) (Ls := #[.val (.ref a1), .val (.int (64 : Int32)), .val (.int (0 : Int32)), .val (.int (1 : Int32))]) (fun z => rfl) (plainFor_of_name pn_java_lang_StringUTF16) hEL (fun m => by first | (simp [entryFrame, mkF, argsToLocals, Value.category]; done) | rfl) ?_
  intro p e s m below meth c B hSf
  obtain ⟨SC, hzc, SA, SH, SL, SF, rf⟩ := id PX
  refine gs (mkF m 1 _ [(.int (0 : Int32))]) (fun T A t k => XS.iloadN A B.x rfl (B.d d26_0) rfl k) ?_
  refine gs (mkF m 2 _ [(.int (0 : Int32)), (.int (0 : Int32))]) (fun T A t k => XS.iconst A B.x rfl (B.d d26_1) k) ?_
  refine g_metN (c_static B (hw _ (List.mem_of_getElem? (i := 112) rfl)) (hw _ (List.mem_of_getElem? (i := 65) rfl)) (hw _ (List.mem_of_getElem? (i := 66) rfl)) (hw _ (List.mem_of_getElem? (i := 67) rfl)) (by decide) rfl (lenOf pd_28II29I rfl) rfl (Nat.le_of_eq rfl) d26_2 rfl (argsL := [(.int (0 : Int32)), (.int (0 : Int32))]) (rest := []) (W := 0) (q := 5)) (n_max_0_0 l Z a0 hw hEL  h0 n0) (hw _ (List.mem_of_getElem? (i := 67) rfl)) (hw _ (List.mem_of_getElem? (i := 66) rfl)) (by decide) (by decide) (by decide) (by decide) ?_
  intro v21 h21 hz21 hQ21
  obtain ⟨rfl, rfl⟩ := hQ21
  refine gs (mkF m 6 #[.val (.ref a1), .val (.int (64 : Int32)), .val (.int (0 : Int32)), .val (.int (1 : Int32))] []) (fun T A t k => XS.istoreN A B.x rfl (B.d d26_5) rfl (l' := #[.val (.ref a1), .val (.int (64 : Int32)), .val (.int (0 : Int32)), .val (.int (1 : Int32))]) rfl k) ?_
  refine gs (mkF m 7 _ [(.int (1 : Int32))]) (fun T A t k => XS.iloadN A B.x rfl (B.d d26_6) rfl k) ?_
  refine gs (mkF m 8 _ [(.ref a1), (.int (1 : Int32))]) (fun T A t k => XS.aloadN A B.x rfl (B.d d26_7) rfl rfl k) ?_
  refine g_len B PA d26_8 (q := 9) rfl ?_
  refine gs (mkF m 10 _ [(.int (1 : Int32)), (.int (2 : Int32)), (.int (1 : Int32))]) (fun T A t k => XS.iconst A B.x rfl (B.d d26_9) k) ?_
  refine gs (mkF m 11 _ [(.int (1 : Int32)), (.int (1 : Int32))]) (fun T A t k => XS.ishr A B.x rfl (B.d d26_10) rfl k) ?_
  refine g_metN (c_static B (hw _ (List.mem_of_getElem? (i := 113) rfl)) (hw _ (List.mem_of_getElem? (i := 69) rfl)) (hw _ (List.mem_of_getElem? (i := 66) rfl)) (hw _ (List.mem_of_getElem? (i := 70) rfl)) (by decide) rfl (lenOf pd_28II29I rfl) rfl (Nat.le_of_eq rfl) d26_11 rfl (argsL := [(.int (1 : Int32)), (.int (1 : Int32))]) (rest := []) (W := 0) (q := 14)) (n_min_1_1 l Z a0 hw hEL  h0 n0) (hw _ (List.mem_of_getElem? (i := 70) rfl)) (hw _ (List.mem_of_getElem? (i := 66) rfl)) (by decide) (by decide) (by decide) (by decide) ?_
  intro v22 h22 hz22 hQ22
  obtain ⟨rfl, rfl⟩ := hQ22
  refine gs (mkF m 15 #[.val (.ref a1), .val (.int (64 : Int32)), .val (.int (0 : Int32)), .val (.int (1 : Int32))] []) (fun T A t k => XS.istoreN A B.x rfl (B.d d26_14) rfl (l' := #[.val (.ref a1), .val (.int (64 : Int32)), .val (.int (0 : Int32)), .val (.int (1 : Int32))]) rfl k) ?_
  refine gs (mkF m 16 _ [(.int (0 : Int32))]) (fun T A t k => XS.iloadN A B.x rfl (B.d d26_15) rfl k) ?_
  refine gs (mkF m 17 _ [(.int (1 : Int32)), (.int (0 : Int32))]) (fun T A t k => XS.iloadN A B.x rfl (B.d d26_16) rfl k) ?_
  refine gs (mkF m 22 _ []) (fun T A t k => XS.icmpYes A B.x rfl (pc0 := 17) (pc' := 22) rfl (B.d d26_17) rfl (tlt (by decide : (0 : Int32) < (1 : Int32))).1 (by decide) (by decide) k) ?_
  refine gs (mkF m 23 _ [(.int (64 : Int32))]) (fun T A t k => XS.iloadN A B.x rfl (B.d d26_22) rfl k) ?_
  refine g_ldcI B (hw _ (List.mem_of_getElem? (i := 114) rfl)) d26_23 (q := 25) rfl ?_
  refine gs (mkF m 28 _ []) (fun T A t k => XS.icmpNo A B.x rfl (B.d d26_25) rfl (tlt (by decide : (64 : Int32) < (65536 : Int32))).2.1 k) ?_
  refine gs (mkF m 29 _ [(.ref a1)]) (fun T A t k => XS.aloadN A B.x rfl (B.d d26_28) rfl rfl k) ?_
  refine gs (mkF m 30 _ [(.int (64 : Int32)), (.ref a1)]) (fun T A t k => XS.iloadN A B.x rfl (B.d d26_29) rfl k) ?_
  refine gs (mkF m 31 _ [(.int (0 : Int32)), (.int (64 : Int32)), (.ref a1)]) (fun T A t k => XS.iloadN A B.x rfl (B.d d26_30) rfl k) ?_
  refine gs (mkF m 32 _ [(.int (1 : Int32)), (.int (0 : Int32)), (.int (64 : Int32)), (.ref a1)]) (fun T A t k => XS.iloadN A B.x rfl (B.d d26_31) rfl k) ?_
  refine g_metN (c_static B (hw _ (List.mem_of_getElem? (i := 115) rfl)) (hw _ (List.mem_of_getElem? (i := 116) rfl)) (hw _ (List.mem_of_getElem? (i := 76) rfl)) (hw _ (List.mem_of_getElem? (i := 117) rfl)) (by decide) rfl (lenOf pd_285bBIII29I rfl) rfl (Nat.le_of_eq rfl) d26_32 rfl (argsL := [(.ref a1), (.int (64 : Int32)), (.int (0 : Int32)), (.int (1 : Int32))]) (rest := []) (W := 0) (q := 35)) (n_u_indexOfChar_64_1 l Z a0 hw hEL a1 zc rv kb c0 h0 n0 PA hr0 PX PO) (hw _ (List.mem_of_getElem? (i := 117) rfl)) (hw _ (List.mem_of_getElem? (i := 76) rfl)) (by decide) (by decide) (by decide) (by decide) ?_
  intro v23 h23 hz23 hQ23
  obtain ⟨rfl, rfl⟩ := hQ23
  exact g_retI B d26_35 (by decide) (by decide) ⟨rfl, rfl⟩
set_option maxRecDepth 65536 in
set_option maxHeartbeats 40000000 in
theorem n_idx2_64_1 (l : Launch) (Z : State) (a0 : Array Value) (hw : ∀ d ∈ tables_1, d.before a0 Z = true) (hEL : EW Z a0 []) (a1 : Addr) (zc : Int32) (rv : Value) (t : Addr) (c0 : Int32) (h0 : Heap) (n0 : Nat) (PS : Str Z h0 a1 t [c0]) (PX : Sts Z zc rv) (PO : Old Z n0 h0) :
    Met false Z [] l (⟨"java/lang/String", "indexOf", "(II)I"⟩ : MethodName) jdk_42_method_80_code 3 (some .int) ({ frames := 5, cells := 0, slots := 0, locals := 73 } : Room) #[(.ref a1), (.int (64 : Int32)), (.int (0 : Int32))] h0 [] n0 (fun v h => v = some (.int (if c0 = (64 : Int32) then (0 : Int32) else (-1 : Int32))) ∧ h0 = h) := by
  refine Met.of (a0 := a0) (Ls := #[.val (.ref a1), .val (.int (64 : Int32)), .val (.int (0 : Int32))]) (fun z => rfl) (plainFor_of_name pn_java_lang_String) hEL (fun m => by first | (simp [entryFrame, mkF, argsToLocals, Value.category]; done) | rfl) ?_
  intro p e s m below meth c B hSf
  obtain ⟨SC, hzc, SA, SH, SL, SF, rf⟩ := id PX
  obtain ⟨PE, PV, cd, N2, vs, kb, PC, PA0, hcod, hb, -⟩ := PS
  have hr0 : rng c0 := hb _ (by simp)
  rcases hcod with ⟨rfl, rfl, rfl, hlat⟩ | ⟨rfl, rfl, rfl, hwd⟩
  · have PA : Arv Z h0 t kb .byte (1 : Int32) [(.int (StrChars.lo8 c0))] (.int (0 : Int32)) := PA0
    have hl0 : ¬ (255 : Int32) < c0 := hlat _ (by simp)
    refine gs (mkF m 1 _ [(.ref a1)]) (fun T A t k => XS.aloadN A B.x rfl (B.d d7_0) rfl rfl k) ?_
    refine g_metN (c_virt B PE (hw _ (List.mem_of_getElem? (i := 41) rfl)) (hw _ (List.mem_of_getElem? (i := 42) rfl)) (hw _ (List.mem_of_getElem? (i := 44) rfl)) (hw _ (List.mem_of_getElem? (i := 43) rfl)) (nfs (z := (⟨"java/lang/String", "isLatin1", "()Z"⟩ : MethodName)) (hw _ (List.mem_of_getElem? (i := 44) rfl))) (by decide) rfl (lenOf pd_2829Z rfl) rfl (Nat.le_of_eq rfl) d7_1 rfl (argsL := []) (rest := []) (W := 0) (q := 4)) (n_isLatin1_0 l Z a0 hw hEL a1 zc rv h0 n0 PE PC PX PO) (hw _ (List.mem_of_getElem? (i := 45) rfl)) (hw _ (List.mem_of_getElem? (i := 7) rfl)) (by decide) (by decide) (by decide) (by decide) ?_
    intro v21 h21 hz21 hQ21
    obtain ⟨rfl, rfl⟩ := hQ21
    refine gs (mkF m 7 _ []) (fun T A t k => XS.ifNo A B.x rfl (B.d d7_4) rfl ((if0 _ _).trans (feq (by decide : ¬ ((1 : Int32) = (0 : Int32)))).1) k) ?_
    refine gs (mkF m 8 _ [(.ref a1)]) (fun T A t k => XS.aloadN A B.x rfl (B.d d7_7) rfl rfl k) ?_
    refine g_getF B (hw _ (List.mem_of_getElem? (i := 25) rfl)) Via.refl PV d7_8 (q := 11) rfl ?_
    refine gs (mkF m 12 _ [(.int (64 : Int32)), (.ref t)]) (fun T A t k => XS.iloadN A B.x rfl (B.d d7_11) rfl k) ?_
    refine gs (mkF m 13 _ [(.int (0 : Int32)), (.int (64 : Int32)), (.ref t)]) (fun T A t k => XS.iloadN A B.x rfl (B.d d7_12) rfl k) ?_
    refine gs (mkF m 14 _ [(.ref a1), (.int (0 : Int32)), (.int (64 : Int32)), (.ref t)]) (fun T A t k => XS.aloadN A B.x rfl (B.d d7_13) rfl rfl k) ?_
    refine g_metN (c_virt B PE (hw _ (List.mem_of_getElem? (i := 47) rfl)) (hw _ (List.mem_of_getElem? (i := 48) rfl)) (hw _ (List.mem_of_getElem? (i := 50) rfl)) (hw _ (List.mem_of_getElem? (i := 49) rfl)) (nfs (z := (⟨"java/lang/String", "length", "()I"⟩ : MethodName)) (hw _ (List.mem_of_getElem? (i := 50) rfl))) (by decide) rfl (lenOf pd_2829I rfl) rfl (Nat.le_of_eq rfl) d7_14 rfl (argsL := []) (rest := [(.int (0 : Int32)), (.int (64 : Int32)), (.ref t)]) (W := 3) (q := 17)) (n_length_1_0 l Z a0 hw hEL a1 zc rv t kb c0 h0 n0 PE PC PV PA PX PO) (hw _ (List.mem_of_getElem? (i := 51) rfl)) (hw _ (List.mem_of_getElem? (i := 7) rfl)) (by decide) (by decide) (by decide) (by decide) ?_
    intro v22 h22 hz22 hQ22
    obtain ⟨rfl, rfl⟩ := hQ22
    refine g_metN (c_static B (hw _ (List.mem_of_getElem? (i := 57) rfl)) (hw _ (List.mem_of_getElem? (i := 58) rfl)) (hw _ (List.mem_of_getElem? (i := 59) rfl)) (hw _ (List.mem_of_getElem? (i := 60) rfl)) (by decide) rfl (lenOf pd_285bBIII29I rfl) rfl (Nat.le_of_eq rfl) d7_17 rfl (argsL := [(.ref t), (.int (64 : Int32)), (.int (0 : Int32)), (.int (1 : Int32))]) (rest := []) (W := 0) (q := 20)) (n_l_indexOf_64_1 l Z a0 hw hEL t zc rv kb c0 h0 n0 PA hr0 hl0 PX PO) (hw _ (List.mem_of_getElem? (i := 60) rfl)) (hw _ (List.mem_of_getElem? (i := 59) rfl)) (by decide) (by decide) (by decide) (by decide) ?_
    intro v23 h23 hz23 hQ23
    obtain ⟨rfl, rfl⟩ := hQ23
    refine gs (mkF m 36 _ [(.int (if c0 = (64 : Int32) then (0 : Int32) else (-1 : Int32)))]) (fun T A t k => XS.goto A B.x rfl (pc0 := 20) (pc' := 36) rfl (B.d d7_20) (by decide) (by decide) k) ?_
    exact g_retI B d7_36 (by decide) (by decide) ⟨rfl, rfl⟩
  · have PA : Arv Z h0 t kb .byte (2 : Int32) [(.int (StrChars.lo8 c0)), (.int (StrChars.hi8 c0))] (.int (0 : Int32)) := PA0
    refine gs (mkF m 1 _ [(.ref a1)]) (fun T A t k => XS.aloadN A B.x rfl (B.d d7_0) rfl rfl k) ?_
    refine g_metN (c_virt B PE (hw _ (List.mem_of_getElem? (i := 41) rfl)) (hw _ (List.mem_of_getElem? (i := 42) rfl)) (hw _ (List.mem_of_getElem? (i := 44) rfl)) (hw _ (List.mem_of_getElem? (i := 43) rfl)) (nfs (z := (⟨"java/lang/String", "isLatin1", "()Z"⟩ : MethodName)) (hw _ (List.mem_of_getElem? (i := 44) rfl))) (by decide) rfl (lenOf pd_2829Z rfl) rfl (Nat.le_of_eq rfl) d7_1 rfl (argsL := []) (rest := []) (W := 0) (q := 4)) (n_isLatin1_1 l Z a0 hw hEL a1 zc rv h0 n0 PE PC PX PO) (hw _ (List.mem_of_getElem? (i := 45) rfl)) (hw _ (List.mem_of_getElem? (i := 7) rfl)) (by decide) (by decide) (by decide) (by decide) ?_
    intro v24 h24 hz24 hQ24
    obtain ⟨rfl, rfl⟩ := hQ24
    refine gs (mkF m 23 _ []) (fun T A t k => XS.ifYes A B.x rfl (pc0 := 4) (pc' := 23) rfl (B.d d7_4) rfl ((if0 _ _).trans (teq (by decide : (0 : Int32) = (0 : Int32))).1) (by decide) (by decide) k) ?_
    refine gs (mkF m 24 _ [(.ref a1)]) (fun T A t k => XS.aloadN A B.x rfl (B.d d7_23) rfl rfl k) ?_
    refine g_getF B (hw _ (List.mem_of_getElem? (i := 25) rfl)) Via.refl PV d7_24 (q := 27) rfl ?_
    refine gs (mkF m 28 _ [(.int (64 : Int32)), (.ref t)]) (fun T A t k => XS.iloadN A B.x rfl (B.d d7_27) rfl k) ?_
    refine gs (mkF m 29 _ [(.int (0 : Int32)), (.int (64 : Int32)), (.ref t)]) (fun T A t k => XS.iloadN A B.x rfl (B.d d7_28) rfl k) ?_
    refine gs (mkF m 30 _ [(.ref a1), (.int (0 : Int32)), (.int (64 : Int32)), (.ref t)]) (fun T A t k => XS.aloadN A B.x rfl (B.d d7_29) rfl rfl k) ?_
    refine g_metN (c_virt B PE (hw _ (List.mem_of_getElem? (i := 47) rfl)) (hw _ (List.mem_of_getElem? (i := 48) rfl)) (hw _ (List.mem_of_getElem? (i := 50) rfl)) (hw _ (List.mem_of_getElem? (i := 49) rfl)) (nfs (z := (⟨"java/lang/String", "length", "()I"⟩ : MethodName)) (hw _ (List.mem_of_getElem? (i := 50) rfl))) (by decide) rfl (lenOf pd_2829I rfl) rfl (Nat.le_of_eq rfl) d7_30 rfl (argsL := []) (rest := [(.int (0 : Int32)), (.int (64 : Int32)), (.ref t)]) (W := 3) (q := 33)) (n_length_2_1 l Z a0 hw hEL a1 zc rv t kb c0 h0 n0 PE PC PV PA PX PO) (hw _ (List.mem_of_getElem? (i := 51) rfl)) (hw _ (List.mem_of_getElem? (i := 7) rfl)) (by decide) (by decide) (by decide) (by decide) ?_
    intro v25 h25 hz25 hQ25
    obtain ⟨rfl, rfl⟩ := hQ25
    refine g_metN (c_static B (hw _ (List.mem_of_getElem? (i := 109) rfl)) (hw _ (List.mem_of_getElem? (i := 110) rfl)) (hw _ (List.mem_of_getElem? (i := 76) rfl)) (hw _ (List.mem_of_getElem? (i := 111) rfl)) (by decide) rfl (lenOf pd_285bBIII29I rfl) rfl (Nat.le_of_eq rfl) d7_33 rfl (argsL := [(.ref t), (.int (64 : Int32)), (.int (0 : Int32)), (.int (1 : Int32))]) (rest := []) (W := 0) (q := 36)) (n_u_indexOf_64_1 l Z a0 hw hEL t zc rv kb c0 h0 n0 PA hr0 PX PO) (hw _ (List.mem_of_getElem? (i := 111) rfl)) (hw _ (List.mem_of_getElem? (i := 76) rfl)) (by decide) (by decide) (by decide) (by decide) ?_
    intro v26 h26 hz26 hQ26
    obtain ⟨rfl, rfl⟩ := hQ26
    exact g_retI B d7_36 (by decide) (by decide) ⟨rfl, rfl⟩
set_option maxRecDepth 65536 in
set_option maxHeartbeats 40000000 in
theorem n_idx1_64_1 (l : Launch) (Z : State) (a0 : Array Value) (hw : ∀ d ∈ tables_1, d.before a0 Z = true) (hEL : EW Z a0 []) (a1 : Addr) (zc : Int32) (rv : Value) (t : Addr) (c0 : Int32) (h0 : Heap) (n0 : Nat) (PS : Str Z h0 a1 t [c0]) (PX : Sts Z zc rv) (PO : Old Z n0 h0) :
    Met false Z [] l (⟨"java/lang/String", "indexOf", "(I)I"⟩ : MethodName) jdk_42_method_79_code 2 (some .int) ({ frames := 6, cells := 0, slots := 0, locals := 87 } : Room) #[(.ref a1), (.int (64 : Int32))] h0 [] n0 (fun v h => v = some (.int (if c0 = (64 : Int32) then (0 : Int32) else (-1 : Int32))) ∧ h0 = h) := by
  refine Met.of (a0 := a0) (Ls := #[.val (.ref a1), .val (.int (64 : Int32))]) (fun z => rfl) (plainFor_of_name pn_java_lang_String) hEL (fun m => by first | (simp [entryFrame, mkF, argsToLocals, Value.category]; done) | rfl) ?_
  intro p e s m below meth c B hSf
  obtain ⟨SC, hzc, SA, SH, SL, SF, rf⟩ := id PX
  refine gs (mkF m 1 _ [(.ref a1)]) (fun T A t k => XS.aloadN A B.x rfl (B.d d6_0) rfl rfl k) ?_
  refine gs (mkF m 2 _ [(.int (64 : Int32)), (.ref a1)]) (fun T A t k => XS.iloadN A B.x rfl (B.d d6_1) rfl k) ?_
  refine gs (mkF m 3 _ [(.int (0 : Int32)), (.int (64 : Int32)), (.ref a1)]) (fun T A t k => XS.iconst A B.x rfl (B.d d6_2) k) ?_
  refine g_metN (c_virt B PS.exa (hw _ (List.mem_of_getElem? (i := 36) rfl)) (hw _ (List.mem_of_getElem? (i := 37) rfl)) (hw _ (List.mem_of_getElem? (i := 39) rfl)) (hw _ (List.mem_of_getElem? (i := 38) rfl)) (nfs (z := (⟨"java/lang/String", "indexOf", "(II)I"⟩ : MethodName)) (hw _ (List.mem_of_getElem? (i := 39) rfl))) (by decide) rfl (lenOf pd_28II29I rfl) rfl (Nat.le_of_eq rfl) d6_3 rfl (argsL := [(.int (64 : Int32)), (.int (0 : Int32))]) (rest := []) (W := 0) (q := 6)) (n_idx2_64_1 l Z a0 hw hEL a1 zc rv t c0 h0 n0 PS PX PO) (hw _ (List.mem_of_getElem? (i := 40) rfl)) (hw _ (List.mem_of_getElem? (i := 7) rfl)) (by decide) (by decide) (by decide) (by decide) ?_
  intro v21 h21 hz21 hQ21
  obtain ⟨rfl, rfl⟩ := hQ21
  exact g_retI B d6_6 (by decide) (by decide) ⟨rfl, rfl⟩
theorem d15_9 : decode prog_11_method_5_code 9 = .ok (.iconst 1, 1) := by decide +kernel
theorem d15_10 : decode prog_11_method_5_code 10 = .ok (.goto 4, 3) := by decide +kernel
set_option maxRecDepth 65536 in
set_option maxHeartbeats 40000000 in
theorem n_isPrincipal_1 (l : Launch) (Z : State) (a0 : Array Value) (hw : ∀ d ∈ tables_1, d.before a0 Z = true) (hEL : EW Z a0 []) (a1 : Addr) (zc : Int32) (rv : Value) (t : Addr) (c0 : Int32) (h0 : Heap) (n0 : Nat) (PS : Str Z h0 a1 t [c0]) (PX : Sts Z zc rv) (PO : Old Z n0 h0) :
    Met false Z [] l (⟨"com/example/multi_domain_access/multidomainaccess/Names", "isPrincipal", "(Ljava/lang/String;)Z"⟩ : MethodName) prog_11_method_5_code 1 (some .boolean) ({ frames := 7, cells := 0, slots := 0, locals := 100 } : Room) #[(.ref a1)] h0 [] n0 (fun v h => v = some (.int (prin [c0])) ∧ h0 = h) := by
  refine Met.of (a0 := a0) (Ls := #[.val (.ref a1)]) (fun z => rfl) (plainFor_of_name pn_com_example_multi_domain_access_multidomainaccess_Names) hEL (fun m => by first | (simp [entryFrame, mkF, argsToLocals, Value.category]; done) | rfl) ?_
  intro p e s m below meth c B hSf
  obtain ⟨SC, hzc, SA, SH, SL, SF, rf⟩ := id PX
  refine gs (mkF m 1 _ [(.ref a1)]) (fun T A t k => XS.aloadN A B.x rfl (B.d d15_0) rfl rfl k) ?_
  refine gs (mkF m 3 _ [(.int (64 : Int32)), (.ref a1)]) (fun T A t k => XS.bipush A B.x rfl (B.d d15_1) k) ?_
  refine g_metN (c_virt B PS.exa (hw _ (List.mem_of_getElem? (i := 31) rfl)) (hw _ (List.mem_of_getElem? (i := 32) rfl)) (hw _ (List.mem_of_getElem? (i := 34) rfl)) (hw _ (List.mem_of_getElem? (i := 33) rfl)) (nfs (z := (⟨"java/lang/String", "indexOf", "(I)I"⟩ : MethodName)) (hw _ (List.mem_of_getElem? (i := 34) rfl))) (by decide) rfl (lenOf pd_28I29I rfl) rfl (Nat.le_of_eq rfl) d15_3 rfl (argsL := [(.int (64 : Int32))]) (rest := []) (W := 0) (q := 6)) (n_idx1_64_1 l Z a0 hw hEL a1 zc rv t c0 h0 n0 PS PX PO) (hw _ (List.mem_of_getElem? (i := 35) rfl)) (hw _ (List.mem_of_getElem? (i := 7) rfl)) (by decide) (by decide) (by decide) (by decide) ?_
  intro v21 h21 hz21 hQ21
  obtain ⟨rfl, rfl⟩ := hQ21
  by_cases hE0 : c0 = (64 : Int32)
  · rw [if_pos hE0]
    refine gs (mkF m 9 _ []) (fun T A t k => XS.ifNo A B.x rfl (B.d d15_6) rfl ((if0 _ _).trans (flt (by decide : ¬ ((0 : Int32) < (0 : Int32)))).1) k) ?_
    refine gs (mkF m 10 _ [(.int (1 : Int32))]) (fun T A t k => XS.iconst A B.x rfl (B.d d15_9) k) ?_
    refine gs (mkF m 14 _ [(.int (1 : Int32))]) (fun T A t k => XS.goto A B.x rfl (pc0 := 10) (pc' := 14) rfl (B.d d15_10) (by decide) (by decide) k) ?_
    exact g_retN (t := .boolean) B (by simp) d15_14 (by decide) (by decide) ⟨by show some (Value.int (1 : Int32)) = _; simp [prin, hE0], rfl⟩
  · rw [if_neg hE0]
    refine gs (mkF m 13 _ []) (fun T A t k => XS.ifYes A B.x rfl (pc0 := 6) (pc' := 13) rfl (B.d d15_6) rfl ((if0 _ _).trans (tlt (by decide : (-1 : Int32) < (0 : Int32))).1) (by decide) (by decide) k) ?_
    refine gs (mkF m 14 _ [(.int (0 : Int32))]) (fun T A t k => XS.iconst A B.x rfl (B.d d15_13) k) ?_
    exact g_retN (t := .boolean) B (by simp) d15_14 (by decide) (by decide) ⟨by show some (Value.int (0 : Int32)) = _; simp [prin, hE0], rfl⟩
set_option maxRecDepth 65536 in
set_option maxHeartbeats 40000000 in
theorem n_isLocalName_1 (l : Launch) (Z : State) (a0 : Array Value) (hw : ∀ d ∈ tables_1, d.before a0 Z = true) (hEL : EW Z a0 []) (a1 : Addr) (zc : Int32) (rv : Value) (t : Addr) (c0 : Int32) (h0 : Heap) (n0 : Nat) (PS : Str Z h0 a1 t [c0]) (PX : Sts Z zc rv) (PO : Old Z n0 h0) :
    Met false Z [] l (⟨"com/example/multi_domain_access/multidomainaccess/Names", "isLocalName", "(Ljava/lang/String;)Z"⟩ : MethodName) prog_11_method_7_code 1 (some .boolean) ({ frames := 8, cells := 0, slots := 0, locals := 112 } : Room) #[(.ref a1)] h0 [] n0 (fun v h => v = some (.int (loc [c0])) ∧ h0 = h) := by
  refine Met.of (a0 := a0) (Ls := #[.val (.ref a1)]) (fun z => rfl) (plainFor_of_name pn_com_example_multi_domain_access_multidomainaccess_Names) hEL (fun m => by first | (simp [entryFrame, mkF, argsToLocals, Value.category]; done) | rfl) ?_
  intro p e s m below meth c B hSf
  obtain ⟨SC, hzc, SA, SH, SL, SF, rf⟩ := id PX
  refine gs (mkF m 1 _ [(.ref a1)]) (fun T A t k => XS.aloadN A B.x rfl (B.d d5_0) rfl rfl k) ?_
  refine gs (mkF m 3 _ [(.int (46 : Int32)), (.ref a1)]) (fun T A t k => XS.bipush A B.x rfl (B.d d5_1) k) ?_
  refine g_metN (c_virt B PS.exa (hw _ (List.mem_of_getElem? (i := 31) rfl)) (hw _ (List.mem_of_getElem? (i := 32) rfl)) (hw _ (List.mem_of_getElem? (i := 34) rfl)) (hw _ (List.mem_of_getElem? (i := 33) rfl)) (nfs (z := (⟨"java/lang/String", "indexOf", "(I)I"⟩ : MethodName)) (hw _ (List.mem_of_getElem? (i := 34) rfl))) (by decide) rfl (lenOf pd_28I29I rfl) rfl (Nat.le_of_eq rfl) d5_3 rfl (argsL := [(.int (46 : Int32))]) (rest := []) (W := 0) (q := 6)) (n_idx1_46_1 l Z a0 hw hEL a1 zc rv t c0 h0 n0 PS PX PO) (hw _ (List.mem_of_getElem? (i := 35) rfl)) (hw _ (List.mem_of_getElem? (i := 7) rfl)) (by decide) (by decide) (by decide) (by decide) ?_
  intro v21 h21 hz21 hQ21
  obtain ⟨rfl, rfl⟩ := hQ21
  by_cases hE0 : c0 = (46 : Int32)
  · rw [if_pos hE0]
    refine gs (mkF m 20 _ []) (fun T A t k => XS.ifYes A B.x rfl (pc0 := 6) (pc' := 20) rfl (B.d d5_6) rfl ((if0 _ _).trans (flt (by decide : ¬ ((0 : Int32) < (0 : Int32)))).2.1) (by decide) (by decide) k) ?_
    refine gs (mkF m 21 _ [(.int (0 : Int32))]) (fun T A t k => XS.iconst A B.x rfl (B.d d5_20) k) ?_
    exact g_retN (t := .boolean) B (by simp) d5_21 (by decide) (by decide) ⟨by show some (Value.int (0 : Int32)) = _; simp [loc, hE0], rfl⟩
  · rw [if_neg hE0]
    refine gs (mkF m 9 _ []) (fun T A t k => XS.ifNo A B.x rfl (B.d d5_6) rfl ((if0 _ _).trans (tlt (by decide : (-1 : Int32) < (0 : Int32))).2.1) k) ?_
    refine gs (mkF m 10 _ [(.ref a1)]) (fun T A t k => XS.aloadN A B.x rfl (B.d d5_9) rfl rfl k) ?_
    refine g_metN (c_static B (hw _ (List.mem_of_getElem? (i := 71) rfl)) (hw _ (List.mem_of_getElem? (i := 72) rfl)) (hw _ (List.mem_of_getElem? (i := 29) rfl)) (hw _ (List.mem_of_getElem? (i := 73) rfl)) (by decide) rfl (lenOf pd_28Ljava2flang2fString3b29Z rfl) rfl (Nat.le_of_eq rfl) d5_10 rfl (argsL := [(.ref a1)]) (rest := []) (W := 0) (q := 13)) (n_isPrincipal_1 l Z a0 hw hEL a1 zc rv t c0 h0 n0 PS PX PO) (hw _ (List.mem_of_getElem? (i := 73) rfl)) (hw _ (List.mem_of_getElem? (i := 29) rfl)) (by decide) (by decide) (by decide) (by decide) ?_
    intro v22 h22 hz22 hQ22
    obtain ⟨rfl, rfl⟩ := hQ22
    by_cases hF0 : c0 = (64 : Int32)
    · rw [show prin [c0] = (1 : Int32) by simp [prin, hF0]]
      refine gs (mkF m 20 _ []) (fun T A t k => XS.ifYes A B.x rfl (pc0 := 13) (pc' := 20) rfl (B.d d5_13) rfl ((if0 _ _).trans (feq (by decide : ¬ ((1 : Int32) = (0 : Int32)))).2) (by decide) (by decide) k) ?_
      refine gs (mkF m 21 _ [(.int (0 : Int32))]) (fun T A t k => XS.iconst A B.x rfl (B.d d5_20) k) ?_
      exact g_retN (t := .boolean) B (by simp) d5_21 (by decide) (by decide) ⟨by show some (Value.int (0 : Int32)) = _; simp [loc, hE0, hF0], rfl⟩
    · rw [show prin [c0] = (0 : Int32) by simp [prin, hF0]]
      refine gs (mkF m 16 _ []) (fun T A t k => XS.ifNo A B.x rfl (B.d d5_13) rfl ((if0 _ _).trans (teq (by decide : (0 : Int32) = (0 : Int32))).2) k) ?_
      refine gs (mkF m 17 _ [(.int (1 : Int32))]) (fun T A t k => XS.iconst A B.x rfl (B.d d5_16) k) ?_
      refine gs (mkF m 21 _ [(.int (1 : Int32))]) (fun T A t k => XS.goto A B.x rfl (pc0 := 17) (pc' := 21) rfl (B.d d5_17) (by decide) (by decide) k) ?_
      exact g_retN (t := .boolean) B (by simp) d5_21 (by decide) (by decide) ⟨by show some (Value.int (1 : Int32)) = _; simp [loc, hE0, hF0], rfl⟩
set_option maxRecDepth 65536 in
set_option maxHeartbeats 40000000 in
theorem n_comp5_2_0 (l : Launch) (Z : State) (a0 : Array Value) (hw : ∀ d ∈ tables_1, d.before a0 Z = true) (hEL : EW Z a0 []) (a1 : Addr) (a2 : Addr) (kc kb : ClassId) (c0 c1 : Int32) (h0 : Heap) (n0 : Nat) (PA : Arv Z h0 a1 kc .char (2 : Int32) [(.int c0), (.int c1)] (.int (0 : Int32))) (PB : Arv Z h0 a2 kb .byte (2 : Int32) [(.int (0 : Int32)), (.int (0 : Int32))] (.int (0 : Int32))) (hd : @LE.le Nat _ n0 a2) (hne : @Ne Nat a1 a2)  (hg : (255 : Int32) < c0) :
    Met false Z [] l (⟨"java/lang/StringUTF16", "compress", "([CI[BII)I"⟩ : MethodName) jdk_52_method_21_code 7 (some .int) ({ frames := 0, cells := 0, slots := 0, locals := 0 } : Room) #[(.ref a1), (.int (0 : Int32)), (.ref a2), (.int (0 : Int32)), (.int (2 : Int32))] h0 [] n0 (fun v h => v = some (.int (0 : Int32)) ∧ Keep h0 h [a2]) := by
  refine Met.of (a0 := a0) (Ls := #[.val (.ref a1), .val (.int (0 : Int32)), .val (.ref a2), .val (.int (0 : Int32)), .val (.int (2 : Int32)), .unset, .unset]) (fun z => rfl) (plainFor_of_name pn_java_lang_StringUTF16) hEL (fun m => by first | (simp [entryFrame, mkF, argsToLocals, Value.category]; done) | rfl) ?_
  intro p e s m below meth c B hSf
  refine gs (mkF m 1 _ [(.int (0 : Int32))]) (fun T A t k => XS.iconst A B.x rfl (B.d d17_0) k) ?_
  refine gs (mkF m 3 #[.val (.ref a1), .val (.int (0 : Int32)), .val (.ref a2), .val (.int (0 : Int32)), .val (.int (2 : Int32)), .val (.int (0 : Int32)), .unset] []) (fun T A t k => XS.istore A B.x rfl (B.d d17_1) rfl (l' := #[.val (.ref a1), .val (.int (0 : Int32)), .val (.ref a2), .val (.int (0 : Int32)), .val (.int (2 : Int32)), .val (.int (0 : Int32)), .unset]) rfl k) ?_
  refine gs (mkF m 5 _ [(.int (0 : Int32))]) (fun T A t k => XS.iload A B.x rfl (B.d d17_3) rfl k) ?_
  refine gs (mkF m 7 _ [(.int (2 : Int32)), (.int (0 : Int32))]) (fun T A t k => XS.iload A B.x rfl (B.d d17_5) rfl k) ?_
  refine gs (mkF m 10 _ []) (fun T A t k => XS.icmpNo A B.x rfl (B.d d17_7) rfl (tlt (by decide : (0 : Int32) < (2 : Int32))).2.1 k) ?_
  refine gs (mkF m 11 _ [(.ref a1)]) (fun T A t k => XS.aloadN A B.x rfl (B.d d17_10) rfl rfl k) ?_
  refine gs (mkF m 12 _ [(.int (0 : Int32)), (.ref a1)]) (fun T A t k => XS.iloadN A B.x rfl (B.d d17_11) rfl k) ?_
  refine g_ldC B PA ⟨by decide, by decide⟩ (v := (.int c0)) rfl d17_12 (q := 13) rfl ?_
  refine gs (mkF m 15 #[.val (.ref a1), .val (.int (0 : Int32)), .val (.ref a2), .val (.int (0 : Int32)), .val (.int (2 : Int32)), .val (.int (0 : Int32)), .val (.int c0)] []) (fun T A t k => XS.istore A B.x rfl (B.d d17_13) rfl (l' := #[.val (.ref a1), .val (.int (0 : Int32)), .val (.ref a2), .val (.int (0 : Int32)), .val (.int (2 : Int32)), .val (.int (0 : Int32)), .val (.int c0)]) rfl k) ?_
  refine gs (mkF m 17 _ [(.int c0)]) (fun T A t k => XS.iload A B.x rfl (B.d d17_15) rfl k) ?_
  refine gs (mkF m 20 _ [(.int (255 : Int32)), (.int c0)]) (fun T A t k => XS.sipush A B.x rfl (B.d d17_17) k) ?_
  refine gs (mkF m 23 _ []) (fun T A t k => XS.icmpNo A B.x rfl (B.d d17_20) rfl (tlt (hg : (255 : Int32) < c0)).2.2.2 k) ?_
  refine gs (mkF m 25 _ [(.int (0 : Int32))]) (fun T A t k => XS.iload A B.x rfl (B.d d17_23) rfl k) ?_
  exact g_retI B d17_25 (by decide) (by decide) ⟨rfl, (Keep.refl h0 [a2])⟩
set_option maxRecDepth 65536 in
set_option maxHeartbeats 40000000 in
theorem n_nbl_2 (l : Launch) (Z : State) (a0 : Array Value) (hw : ∀ d ∈ tables_1, d.before a0 Z = true) (hEL : EW Z a0 [])   (h0 : Heap) (n0 : Nat)  :
    Met false Z [] l (⟨"java/lang/StringUTF16", "newBytesLength", "(I)I"⟩ : MethodName) jdk_52_method_3_code 1 (some .int) ({ frames := 0, cells := 0, slots := 0, locals := 0 } : Room) #[(.int (2 : Int32))] h0 [] n0 (fun v h => v = some (.int (4 : Int32)) ∧ h0 = h) := by
  refine Met.of (a0 := a0) (Ls := #[.val (.int (2 : Int32))]) (fun z => rfl) (plainFor_of_name pn_java_lang_StringUTF16) hEL (fun m => by first | (simp [entryFrame, mkF, argsToLocals, Value.category]; done) | rfl) ?_
  intro p e s m below meth c B hSf
  refine gs (mkF m 1 _ [(.int (2 : Int32))]) (fun T A t k => XS.iloadN A B.x rfl (B.d d23_0) rfl k) ?_
  refine gs (mkF m 12 _ []) (fun T A t k => XS.ifYes A B.x rfl (pc0 := 1) (pc' := 12) rfl (B.d d23_1) rfl ((if0 _ _).trans (flt (by decide : ¬ ((2 : Int32) < (0 : Int32)))).2.1) (by decide) (by decide) k) ?_
  refine gs (mkF m 13 _ [(.int (2 : Int32))]) (fun T A t k => XS.iloadN A B.x rfl (B.d d23_12) rfl k) ?_
  refine g_ldcI B (hw _ (List.mem_of_getElem? (i := 99) rfl)) d23_13 (q := 15) rfl ?_
  refine gs (mkF m 55 _ []) (fun T A t k => XS.icmpYes A B.x rfl (pc0 := 15) (pc' := 55) rfl (B.d d23_15) rfl (tlt (by decide : (2 : Int32) < (1073741823 : Int32))).1 (by decide) (by decide) k) ?_
  refine gs (mkF m 56 _ [(.int (2 : Int32))]) (fun T A t k => XS.iloadN A B.x rfl (B.d d23_55) rfl k) ?_
  refine gs (mkF m 57 _ [(.int (1 : Int32)), (.int (2 : Int32))]) (fun T A t k => XS.iconst A B.x rfl (B.d d23_56) k) ?_
  refine gs (mkF m 58 _ [(.int (4 : Int32))]) (fun T A t k => XS.ishl A B.x rfl (B.d d23_57) rfl k) ?_
  exact g_retI B d23_58 (by decide) (by decide) ⟨rfl, rfl⟩
set_option maxRecDepth 65536 in
set_option maxHeartbeats 40000000 in
theorem n_nbf_2 (l : Launch) (Z : State) (a0 : Array Value) (hw : ∀ d ∈ tables_1, d.before a0 Z = true) (hEL : EW Z a0 [])   (h0 : Heap) (n0 : Nat)  :
    Met false Z [] l (⟨"java/lang/StringUTF16", "newBytesFor", "(I)[B"⟩ : MethodName) jdk_52_method_2_code 1 (some (.array .byte)) ({ frames := 1, cells := 1, slots := 4, locals := 12 } : Room) #[(.int (2 : Int32))] h0 [] n0 (fun v h => ∃ (x : Addr) (kb : ClassId), v = some (.ref x) ∧ Keep h0 h [] ∧ @LE.le Nat _ h0.size x ∧ Arv Z h x kb .byte (4 : Int32) [(.int (0 : Int32)), (.int (0 : Int32)), (.int (0 : Int32)), (.int (0 : Int32))] (.int (0 : Int32))) := by
  refine Met.of (a0 := a0) (Ls := #[.val (.int (2 : Int32))]) (fun z => rfl) (plainFor_of_name pn_java_lang_StringUTF16) hEL (fun m => by first | (simp [entryFrame, mkF, argsToLocals, Value.category]; done) | rfl) ?_
  intro p e s m below meth c B hSf
  refine gs (mkF m 1 _ [(.int (2 : Int32))]) (fun T A t k => XS.iloadN A B.x rfl (B.d d22_0) rfl k) ?_
  refine g_metN (c_static B (hw _ (List.mem_of_getElem? (i := 96) rfl)) (hw _ (List.mem_of_getElem? (i := 97) rfl)) (hw _ (List.mem_of_getElem? (i := 76) rfl)) (hw _ (List.mem_of_getElem? (i := 98) rfl)) (by decide) rfl (lenOf pd_28I29I rfl) rfl (Nat.le_of_eq rfl) d22_1 rfl (argsL := [(.int (2 : Int32))]) (rest := []) (W := 0) (q := 4)) (n_nbl_2 l Z a0 hw hEL  h0 n0) (hw _ (List.mem_of_getElem? (i := 98) rfl)) (hw _ (List.mem_of_getElem? (i := 76) rfl)) (by decide) (by decide) (by decide) (by decide) ?_
  intro v1 h1 hz1 hQ1
  obtain ⟨rfl, rfl⟩ := hQ1
  refine g_newP B (hw _ (List.mem_of_getElem? (i := 20) rfl)) d22_4 (by decide) (cap := 4) (by decide) (by decide) (by decide) (by decide) (q := 6) rfl ?_
  intro h2 b2 k2 g2 E2 S2 A2
  have z2 := E2.1; have y2 : @LT.lt Nat _ b2 h2.size := A2.lt
  have V2 : Arv Z h2 b2 k2 .byte (4 : Int32) [(.int (0 : Int32)), (.int (0 : Int32)), (.int (0 : Int32)), (.int (0 : Int32))] (.int (0 : Int32)) := A2
  exact g_retA B rfl rfl d22_6 (by decide) (by decide) ⟨_, _, rfl, ((Keep.refl h0 []).ext E2), (by omega), V2⟩
set_option maxRecDepth 65536 in
set_option maxHeartbeats 40000000 in
theorem n_putc_4_0 (l : Launch) (Z : State) (a0 : Array Value) (hw : ∀ d ∈ tables_1, d.before a0 Z = true) (hEL : EW Z a0 []) (a1 : Addr) (cc : Int32) (zc : Int32) (rv : Value) (kb : ClassId) (v0 v1 v2 v3 : Value) (h0 : Heap) (n0 : Nat) (PA : Arv Z h0 a1 kb .byte (4 : Int32) [v0, v1, v2, v3] (.int (0 : Int32))) (hd : @LE.le Nat _ n0 a1) (PX : Sts Z zc rv) (PO : Old Z n0 h0) :
    Met false Z [] l (⟨"java/lang/StringUTF16", "putChar", "([BII)V"⟩ : MethodName) jdk_52_method_4_code 3 none ({ frames := 0, cells := 0, slots := 0, locals := 0 } : Room) #[(.ref a1), (.int (0 : Int32)), (.int cc)] h0 [] n0 (fun v h => v = none ∧ Keep h0 h [a1] ∧ Arv Z h a1 kb .byte (4 : Int32) [(.int (StrChars.lo8 cc)), (.int (StrChars.hi8 cc)), v2, v3] (.int (0 : Int32))) := by
  refine Met.of (a0 := a0) (Ls := #[.val (.ref a1), .val (.int (0 : Int32)), .val (.int cc)]) (fun z => rfl) (plainFor_of_name pn_java_lang_StringUTF16) hEL (fun m => by first | (simp [entryFrame, mkF, argsToLocals, Value.category]; done) | rfl) ?_
  intro p e s m below meth c B hSf
  obtain ⟨SC, hzc, SA, SH, SL, SF, rf⟩ := id PX
  refine g_getS B (hw _ (List.mem_of_getElem? (i := 103) rfl)) (SA.ext PO.2) d24_0 (q := 3) rfl ?_
  refine gs (mkF m 28 _ []) (fun T A t k => XS.ifYes A B.x rfl (pc0 := 3) (pc' := 28) rfl (B.d d24_3) rfl ((if0 _ _).trans (feq (by decide : ¬ ((1 : Int32) = (0 : Int32)))).2) (by decide) (by decide) k) ?_
  refine gs (mkF m 29 _ [(.int (0 : Int32))]) (fun T A t k => XS.iloadN A B.x rfl (B.d d24_28) rfl k) ?_
  refine gs (mkF m 30 _ [(.int (1 : Int32)), (.int (0 : Int32))]) (fun T A t k => XS.iconst A B.x rfl (B.d d24_29) k) ?_
  refine gs (mkF m 31 _ [(.int (0 : Int32))]) (fun T A t k => XS.ishl A B.x rfl (B.d d24_30) rfl k) ?_
  refine gs (mkF m 32 #[.val (.ref a1), .val (.int (0 : Int32)), .val (.int cc)] []) (fun T A t k => XS.istoreN A B.x rfl (B.d d24_31) rfl (l' := #[.val (.ref a1), .val (.int (0 : Int32)), .val (.int cc)]) rfl k) ?_
  refine gs (mkF m 33 _ [(.ref a1)]) (fun T A t k => XS.aloadN A B.x rfl (B.d d24_32) rfl rfl k) ?_
  refine gs (mkF m 34 _ [(.int (0 : Int32)), (.ref a1)]) (fun T A t k => XS.iloadN A B.x rfl (B.d d24_33) rfl k) ?_
  refine gs (mkF m 37 #[.val (.ref a1), .val (.int (1 : Int32)), .val (.int cc)] [(.int (0 : Int32)), (.ref a1)]) (fun T A t k => XS.iinc A B.x rfl (B.d d24_34) rfl (l' := #[.val (.ref a1), .val (.int (1 : Int32)), .val (.int cc)]) rfl k) ?_
  refine gs (mkF m 38 _ [(.int cc), (.int (0 : Int32)), (.ref a1)]) (fun T A t k => XS.iloadN A B.x rfl (B.d d24_37) rfl k) ?_
  refine g_getS B (hw _ (List.mem_of_getElem? (i := 104) rfl)) (SH.ext PO.2) d24_38 (q := 41) rfl ?_
  refine gs (mkF m 42 _ [(.int (cc >>> ((0 : Int32) &&& 31))), (.int (0 : Int32)), (.ref a1)]) (fun T A t k => XS.ishr A B.x rfl (B.d d24_41) rfl k) ?_
  refine gs (mkF m 43 _ [(.int ((cc >>> ((0 : Int32) &&& 31)).toInt8.toInt32)), (.int (0 : Int32)), (.ref a1)]) (fun T A t k => XS.i2b A B.x rfl (B.d d24_42) rfl k) ?_
  refine g_stB B PA (x' := (StrChars.lo8 cc)) (nbL _) ⟨by decide, by decide⟩ (i := 0) rfl (Nat.le_of_ble_eq_true rfl) d24_43 nos (by omega) (q := 44) rfl ?_
  intro h21 W21 A21
  have z21 := W21.size
  have V21 : Arv Z h21 a1 kb .byte (4 : Int32) [(.int (StrChars.lo8 cc)), v1, v2, v3] (.int (0 : Int32)) := A21
  refine gs (mkF m 45 _ [(.ref a1)]) (fun T A t k => XS.aloadN A B.x rfl (B.d d24_44) rfl rfl k) ?_
  refine gs (mkF m 46 _ [(.int (1 : Int32)), (.ref a1)]) (fun T A t k => XS.iloadN A B.x rfl (B.d d24_45) rfl k) ?_
  refine gs (mkF m 47 _ [(.int cc), (.int (1 : Int32)), (.ref a1)]) (fun T A t k => XS.iloadN A B.x rfl (B.d d24_46) rfl k) ?_
  refine g_getS B (hw _ (List.mem_of_getElem? (i := 105) rfl)) (SL.ext (PO.wr W21 (by omega)).2) d24_47 (q := 50) rfl ?_
  refine gs (mkF m 51 _ [(.int (cc >>> ((8 : Int32) &&& 31))), (.int (1 : Int32)), (.ref a1)]) (fun T A t k => XS.ishr A B.x rfl (B.d d24_50) rfl k) ?_
  refine gs (mkF m 52 _ [(.int ((cc >>> ((8 : Int32) &&& 31)).toInt8.toInt32)), (.int (1 : Int32)), (.ref a1)]) (fun T A t k => XS.i2b A B.x rfl (B.d d24_51) rfl k) ?_
  refine g_stB B V21 (x' := (StrChars.hi8 cc)) (nbH _) ⟨by decide, by decide⟩ (i := 1) rfl (Nat.le_of_ble_eq_true rfl) d24_52 nos (by omega) (q := 53) rfl ?_
  intro h22 W22 A22
  have z22 := W22.size
  have V22 : Arv Z h22 a1 kb .byte (4 : Int32) [(.int (StrChars.lo8 cc)), (.int (StrChars.hi8 cc)), v2, v3] (.int (0 : Int32)) := A22
  exact g_ret0 B d24_53 (by decide) (by decide) ⟨rfl, (((Keep.refl h0 [a1]).wr W21 (Or.inl (by simp))).wr W22 (Or.inl (by simp))), V22⟩
set_option maxRecDepth 65536 in
set_option maxHeartbeats 40000000 in
theorem n_putc_4_1 (l : Launch) (Z : State) (a0 : Array Value) (hw : ∀ d ∈ tables_1, d.before a0 Z = true) (hEL : EW Z a0 []) (a1 : Addr) (cc : Int32) (zc : Int32) (rv : Value) (kb : ClassId) (v0 v1 v2 v3 : Value) (h0 : Heap) (n0 : Nat) (PA : Arv Z h0 a1 kb .byte (4 : Int32) [v0, v1, v2, v3] (.int (0 : Int32))) (hd : @LE.le Nat _ n0 a1) (PX : Sts Z zc rv) (PO : Old Z n0 h0) :
    Met false Z [] l (⟨"java/lang/StringUTF16", "putChar", "([BII)V"⟩ : MethodName) jdk_52_method_4_code 3 none ({ frames := 0, cells := 0, slots := 0, locals := 0 } : Room) #[(.ref a1), (.int (1 : Int32)), (.int cc)] h0 [] n0 (fun v h => v = none ∧ Keep h0 h [a1] ∧ Arv Z h a1 kb .byte (4 : Int32) [v0, v1, (.int (StrChars.lo8 cc)), (.int (StrChars.hi8 cc))] (.int (0 : Int32))) := by
  refine Met.of (a0 := a0) (Ls := #[.val (.ref a1), .val (.int (1 : Int32)), .val (.int cc)]) (fun z => rfl) (plainFor_of_name pn_java_lang_StringUTF16) hEL (fun m => by first | (simp [entryFrame, mkF, argsToLocals, Value.category]; done) | rfl) ?_
  intro p e s m below meth c B hSf
  obtain ⟨SC, hzc, SA, SH, SL, SF, rf⟩ := id PX
  refine g_getS B (hw _ (List.mem_of_getElem? (i := 103) rfl)) (SA.ext PO.2) d24_0 (q := 3) rfl ?_
  refine gs (mkF m 28 _ []) (fun T A t k => XS.ifYes A B.x rfl (pc0 := 3) (pc' := 28) rfl (B.d d24_3) rfl ((if0 _ _).trans (feq (by decide : ¬ ((1 : Int32) = (0 : Int32)))).2) (by decide) (by decide) k) ?_
  refine gs (mkF m 29 _ [(.int (1 : Int32))]) (fun T A t k => XS.iloadN A B.x rfl (B.d d24_28) rfl k) ?_
  refine gs (mkF m 30 _ [(.int (1 : Int32)), (.int (1 : Int32))]) (fun T A t k => XS.iconst A B.x rfl (B.d d24_29) k) ?_
  refine gs (mkF m 31 _ [(.int (2 : Int32))]) (fun T A t k => XS.ishl A B.x rfl (B.d d24_30) rfl k) ?_
  refine gs (mkF m 32 #[.val (.ref a1), .val (.int (2 : Int32)), .val (.int cc)] []) (fun T A t k => XS.istoreN A B.x rfl (B.d d24_31) rfl (l' := #[.val (.ref a1), .val (.int (2 : Int32)), .val (.int cc)]) rfl k) ?_
  refine gs (mkF m 33 _ [(.ref a1)]) (fun T A t k => XS.aloadN A B.x rfl (B.d d24_32) rfl rfl k) ?_
  refine gs (mkF m 34 _ [(.int (2 : Int32)), (.ref a1)]) (fun T A t k => XS.iloadN A B.x rfl (B.d d24_33) rfl k) ?_
  refine gs (mkF m 37 #[.val (.ref a1), .val (.int (3 : Int32)), .val (.int cc)] [(.int (2 : Int32)), (.ref a1)]) (fun T A t k => XS.iinc A B.x rfl (B.d d24_34) rfl (l' := #[.val (.ref a1), .val (.int (3 : Int32)), .val (.int cc)]) rfl k) ?_
  refine gs (mkF m 38 _ [(.int cc), (.int (2 : Int32)), (.ref a1)]) (fun T A t k => XS.iloadN A B.x rfl (B.d d24_37) rfl k) ?_
  refine g_getS B (hw _ (List.mem_of_getElem? (i := 104) rfl)) (SH.ext PO.2) d24_38 (q := 41) rfl ?_
  refine gs (mkF m 42 _ [(.int (cc >>> ((0 : Int32) &&& 31))), (.int (2 : Int32)), (.ref a1)]) (fun T A t k => XS.ishr A B.x rfl (B.d d24_41) rfl k) ?_
  refine gs (mkF m 43 _ [(.int ((cc >>> ((0 : Int32) &&& 31)).toInt8.toInt32)), (.int (2 : Int32)), (.ref a1)]) (fun T A t k => XS.i2b A B.x rfl (B.d d24_42) rfl k) ?_
  refine g_stB B PA (x' := (StrChars.lo8 cc)) (nbL _) ⟨by decide, by decide⟩ (i := 2) rfl (Nat.le_of_ble_eq_true rfl) d24_43 nos (by omega) (q := 44) rfl ?_
  intro h21 W21 A21
  have z21 := W21.size
  have V21 : Arv Z h21 a1 kb .byte (4 : Int32) [v0, v1, (.int (StrChars.lo8 cc)), v3] (.int (0 : Int32)) := A21
  refine gs (mkF m 45 _ [(.ref a1)]) (fun T A t k => XS.aloadN A B.x rfl (B.d d24_44) rfl rfl k) ?_
  refine gs (mkF m 46 _ [(.int (3 : Int32)), (.ref a1)]) (fun T A t k => XS.iloadN A B.x rfl (B.d d24_45) rfl k) ?_
  refine gs (mkF m 47 _ [(.int cc), (.int (3 : Int32)), (.ref a1)]) (fun T A t k => XS.iloadN A B.x rfl (B.d d24_46) rfl k) ?_
  refine g_getS B (hw _ (List.mem_of_getElem? (i := 105) rfl)) (SL.ext (PO.wr W21 (by omega)).2) d24_47 (q := 50) rfl ?_
  refine gs (mkF m 51 _ [(.int (cc >>> ((8 : Int32) &&& 31))), (.int (3 : Int32)), (.ref a1)]) (fun T A t k => XS.ishr A B.x rfl (B.d d24_50) rfl k) ?_
  refine gs (mkF m 52 _ [(.int ((cc >>> ((8 : Int32) &&& 31)).toInt8.toInt32)), (.int (3 : Int32)), (.ref a1)]) (fun T A t k => XS.i2b A B.x rfl (B.d d24_51) rfl k) ?_
  refine g_stB B V21 (x' := (StrChars.hi8 cc)) (nbH _) ⟨by decide, by decide⟩ (i := 3) rfl (Nat.le_of_ble_eq_true rfl) d24_52 nos (by omega) (q := 53) rfl ?_
  intro h22 W22 A22
  have z22 := W22.size
  have V22 : Arv Z h22 a1 kb .byte (4 : Int32) [v0, v1, (.int (StrChars.lo8 cc)), (.int (StrChars.hi8 cc))] (.int (0 : Int32)) := A22
  exact g_ret0 B d24_53 (by decide) (by decide) ⟨rfl, (((Keep.refl h0 [a1]).wr W21 (Or.inl (by simp))).wr W22 (Or.inl (by simp))), V22⟩
set_option maxRecDepth 65536 in
set_option maxHeartbeats 40000000 in
theorem n_tob_2 (l : Launch) (Z : State) (a0 : Array Value) (hw : ∀ d ∈ tables_1, d.before a0 Z = true) (hEL : EW Z a0 []) (a1 : Addr) (zc : Int32) (rv : Value) (kc : ClassId) (c0 c1 : Int32) (h0 : Heap) (n0 : Nat) (PA : Arv Z h0 a1 kc .char (2 : Int32) [(.int c0), (.int c1)] (.int (0 : Int32))) (hn : @LE.le Nat _ n0 h0.size) (ha : @LT.lt Nat _ a1 h0.size) (PX : Sts Z zc rv) (PO : Old Z n0 h0) :
    Met false Z [] l (⟨"java/lang/StringUTF16", "toBytes", "([CII)[B"⟩ : MethodName) jdk_52_method_14_code 5 (some (.array .byte)) ({ frames := 2, cells := 1, slots := 4, locals := 24 } : Room) #[(.ref a1), (.int (0 : Int32)), (.int (2 : Int32))] h0 [] n0 (fun v h => ∃ (x : Addr) (kb : ClassId), v = some (.ref x) ∧ Keep h0 h [] ∧ @LE.le Nat _ h0.size x ∧ Arv Z h x kb .byte (4 : Int32) [(.int (StrChars.lo8 c0)), (.int (StrChars.hi8 c0)), (.int (StrChars.lo8 c1)), (.int (StrChars.hi8 c1))] (.int (0 : Int32))) := by
  refine Met.of (a0 := a0) (Ls := #[.val (.ref a1), .val (.int (0 : Int32)), .val (.int (2 : Int32)), .unset, .unset]) (fun z => rfl) (plainFor_of_name pn_java_lang_StringUTF16) hEL (fun m => by first | (simp [entryFrame, mkF, argsToLocals, Value.category]; done) | rfl) ?_
  intro p e s m below meth c B hSf
  obtain ⟨SC, hzc, SA, SH, SL, SF, rf⟩ := id PX
  refine gs (mkF m 1 _ [(.int (2 : Int32))]) (fun T A t k => XS.iloadN A B.x rfl (B.d d21_0) rfl k) ?_
  refine g_metN (c_static B (hw _ (List.mem_of_getElem? (i := 93) rfl)) (hw _ (List.mem_of_getElem? (i := 94) rfl)) (hw _ (List.mem_of_getElem? (i := 76) rfl)) (hw _ (List.mem_of_getElem? (i := 95) rfl)) (by decide) rfl (lenOf pd_28I295bB rfl) rfl (Nat.le_of_eq rfl) d21_1 rfl (argsL := [(.int (2 : Int32))]) (rest := []) (W := 0) (q := 4)) (n_nbf_2 l Z a0 hw hEL  h0 n0) (hw _ (List.mem_of_getElem? (i := 95) rfl)) (hw _ (List.mem_of_getElem? (i := 76) rfl)) (by decide) (by decide) (by decide) (by decide) ?_
  intro v21 h21 hz21 hQ21
  obtain ⟨x21, k21, rfl, K21, g21, V21⟩ := hQ21
  have z21 := K21.1; have y21 : @LT.lt Nat _ x21 h21.size := V21.lt
  refine gs (mkF m 5 #[.val (.ref a1), .val (.int (0 : Int32)), .val (.int (2 : Int32)), .val (.ref x21), .unset] []) (fun T A t k => XS.astoreN A B.x rfl (B.d d21_4) rfl rfl (l' := #[.val (.ref a1), .val (.int (0 : Int32)), .val (.int (2 : Int32)), .val (.ref x21), .unset]) rfl k) ?_
  refine gs (mkF m 6 _ [(.int (0 : Int32))]) (fun T A t k => XS.iconst A B.x rfl (B.d d21_5) k) ?_
  refine gs (mkF m 8 #[.val (.ref a1), .val (.int (0 : Int32)), .val (.int (2 : Int32)), .val (.ref x21), .val (.int (0 : Int32))] []) (fun T A t k => XS.istore A B.x rfl (B.d d21_6) rfl (l' := #[.val (.ref a1), .val (.int (0 : Int32)), .val (.int (2 : Int32)), .val (.ref x21), .val (.int (0 : Int32))]) rfl k) ?_
  refine gs (mkF m 10 _ [(.int (0 : Int32))]) (fun T A t k => XS.iload A B.x rfl (B.d d21_8) rfl k) ?_
  refine gs (mkF m 11 _ [(.int (2 : Int32)), (.int (0 : Int32))]) (fun T A t k => XS.iloadN A B.x rfl (B.d d21_10) rfl k) ?_
  refine gs (mkF m 14 _ []) (fun T A t k => XS.icmpNo A B.x rfl (B.d d21_11) rfl (tlt (by decide : (0 : Int32) < (2 : Int32))).2.1 k) ?_
  refine gs (mkF m 15 _ [(.ref x21)]) (fun T A t k => XS.aloadN A B.x rfl (B.d d21_14) rfl rfl k) ?_
  refine gs (mkF m 17 _ [(.int (0 : Int32)), (.ref x21)]) (fun T A t k => XS.iload A B.x rfl (B.d d21_15) rfl k) ?_
  refine gs (mkF m 18 _ [(.ref a1), (.int (0 : Int32)), (.ref x21)]) (fun T A t k => XS.aloadN A B.x rfl (B.d d21_17) rfl rfl k) ?_
  refine gs (mkF m 19 _ [(.int (0 : Int32)), (.ref a1), (.int (0 : Int32)), (.ref x21)]) (fun T A t k => XS.iloadN A B.x rfl (B.d d21_18) rfl k) ?_
  refine g_ldC B (PA.keep K21 nin0) ⟨by decide, by decide⟩ (v := (.int c0)) rfl d21_19 (q := 20) rfl ?_
  refine g_metN (c_static B (hw _ (List.mem_of_getElem? (i := 100) rfl)) (hw _ (List.mem_of_getElem? (i := 101) rfl)) (hw _ (List.mem_of_getElem? (i := 76) rfl)) (hw _ (List.mem_of_getElem? (i := 102) rfl)) (by decide) rfl (lenOf pd_285bBII29V rfl) rfl (Nat.le_of_eq rfl) d21_20 rfl (argsL := [(.ref x21), (.int (0 : Int32)), (.int c0)]) (rest := []) (W := 0) (q := 23)) (n_putc_4_0 l Z a0 hw hEL x21 (c0) zc rv k21 (.int (0 : Int32)) (.int (0 : Int32)) (.int (0 : Int32)) (.int (0 : Int32)) h21 n0 V21 (by omega) PX (PO.keep K21 all0)) (hw _ (List.mem_of_getElem? (i := 102) rfl)) (hw _ (List.mem_of_getElem? (i := 76) rfl)) (by decide) (by decide) (by decide) (by decide) ?_
  intro v22 h22 hz22 hQ22
  obtain ⟨rfl, K22, V22⟩ := hQ22
  have z22 := K22.1
  refine gs (mkF m 26 #[.val (.ref a1), .val (.int (1 : Int32)), .val (.int (2 : Int32)), .val (.ref x21), .val (.int (0 : Int32))] []) (fun T A t k => XS.iinc A B.x rfl (B.d d21_23) rfl (l' := #[.val (.ref a1), .val (.int (1 : Int32)), .val (.int (2 : Int32)), .val (.ref x21), .val (.int (0 : Int32))]) rfl k) ?_
  refine gs (mkF m 29 #[.val (.ref a1), .val (.int (1 : Int32)), .val (.int (2 : Int32)), .val (.ref x21), .val (.int (1 : Int32))] []) (fun T A t k => XS.iinc A B.x rfl (B.d d21_26) rfl (l' := #[.val (.ref a1), .val (.int (1 : Int32)), .val (.int (2 : Int32)), .val (.ref x21), .val (.int (1 : Int32))]) rfl k) ?_
  refine gs (mkF m 8 _ []) (fun T A t k => XS.goto A B.x rfl (pc0 := 29) (pc' := 8) rfl (B.d d21_29) (by decide) (by decide) k) ?_
  refine gs (mkF m 10 _ [(.int (1 : Int32))]) (fun T A t k => XS.iload A B.x rfl (B.d d21_8) rfl k) ?_
  refine gs (mkF m 11 _ [(.int (2 : Int32)), (.int (1 : Int32))]) (fun T A t k => XS.iloadN A B.x rfl (B.d d21_10) rfl k) ?_
  refine gs (mkF m 14 _ []) (fun T A t k => XS.icmpNo A B.x rfl (B.d d21_11) rfl (tlt (by decide : (1 : Int32) < (2 : Int32))).2.1 k) ?_
  refine gs (mkF m 15 _ [(.ref x21)]) (fun T A t k => XS.aloadN A B.x rfl (B.d d21_14) rfl rfl k) ?_
  refine gs (mkF m 17 _ [(.int (1 : Int32)), (.ref x21)]) (fun T A t k => XS.iload A B.x rfl (B.d d21_15) rfl k) ?_
  refine gs (mkF m 18 _ [(.ref a1), (.int (1 : Int32)), (.ref x21)]) (fun T A t k => XS.aloadN A B.x rfl (B.d d21_17) rfl rfl k) ?_
  refine gs (mkF m 19 _ [(.int (1 : Int32)), (.ref a1), (.int (1 : Int32)), (.ref x21)]) (fun T A t k => XS.iloadN A B.x rfl (B.d d21_18) rfl k) ?_
  refine g_ldC B ((PA.keep K21 nin0).keep K22 (ninS (by omega : @Ne Nat a1 x21) nin0)) ⟨by decide, by decide⟩ (v := (.int c1)) rfl d21_19 (q := 20) rfl ?_
  refine g_metN (c_static B (hw _ (List.mem_of_getElem? (i := 100) rfl)) (hw _ (List.mem_of_getElem? (i := 101) rfl)) (hw _ (List.mem_of_getElem? (i := 76) rfl)) (hw _ (List.mem_of_getElem? (i := 102) rfl)) (by decide) rfl (lenOf pd_285bBII29V rfl) rfl (Nat.le_of_eq rfl) d21_20 rfl (argsL := [(.ref x21), (.int (1 : Int32)), (.int c1)]) (rest := []) (W := 0) (q := 23)) (n_putc_4_1 l Z a0 hw hEL x21 (c1) zc rv k21 (.int (StrChars.lo8 c0)) (.int (StrChars.hi8 c0)) (.int (0 : Int32)) (.int (0 : Int32)) h22 n0 V22 (by omega) PX ((PO.keep K21 all0).keep K22 (allS (by omega) all0))) (hw _ (List.mem_of_getElem? (i := 102) rfl)) (hw _ (List.mem_of_getElem? (i := 76) rfl)) (by decide) (by decide) (by decide) (by decide) ?_
  intro v23 h23 hz23 hQ23
  obtain ⟨rfl, K23, V23⟩ := hQ23
  have z23 := K23.1
  refine gs (mkF m 26 #[.val (.ref a1), .val (.int (2 : Int32)), .val (.int (2 : Int32)), .val (.ref x21), .val (.int (1 : Int32))] []) (fun T A t k => XS.iinc A B.x rfl (B.d d21_23) rfl (l' := #[.val (.ref a1), .val (.int (2 : Int32)), .val (.int (2 : Int32)), .val (.ref x21), .val (.int (1 : Int32))]) rfl k) ?_
  refine gs (mkF m 29 #[.val (.ref a1), .val (.int (2 : Int32)), .val (.int (2 : Int32)), .val (.ref x21), .val (.int (2 : Int32))] []) (fun T A t k => XS.iinc A B.x rfl (B.d d21_26) rfl (l' := #[.val (.ref a1), .val (.int (2 : Int32)), .val (.int (2 : Int32)), .val (.ref x21), .val (.int (2 : Int32))]) rfl k) ?_
  refine gs (mkF m 8 _ []) (fun T A t k => XS.goto A B.x rfl (pc0 := 29) (pc' := 8) rfl (B.d d21_29) (by decide) (by decide) k) ?_
  refine gs (mkF m 10 _ [(.int (2 : Int32))]) (fun T A t k => XS.iload A B.x rfl (B.d d21_8) rfl k) ?_
  refine gs (mkF m 11 _ [(.int (2 : Int32)), (.int (2 : Int32))]) (fun T A t k => XS.iloadN A B.x rfl (B.d d21_10) rfl k) ?_
  refine gs (mkF m 32 _ []) (fun T A t k => XS.icmpYes A B.x rfl (pc0 := 11) (pc' := 32) rfl (B.d d21_11) rfl (flt (by decide : ¬ ((2 : Int32) < (2 : Int32)))).2.1 (by decide) (by decide) k) ?_
  refine gs (mkF m 33 _ [(.ref x21)]) (fun T A t k => XS.aloadN A B.x rfl (B.d d21_32) rfl rfl k) ?_
  exact g_retA B rfl rfl d21_33 (by decide) (by decide) ⟨_, _, rfl, ((((Keep.refl h0 []).trans K21 all0).trans K22 (allS (Or.inr (by omega)) all0)).trans K23 (allS (Or.inr (by omega)) all0)), (by omega), V23⟩
set_option maxRecDepth 65536 in
set_option maxHeartbeats 40000000 in
theorem n_gc_4_0 (l : Launch) (Z : State) (a0 : Array Value) (hw : ∀ d ∈ tables_1, d.before a0 Z = true) (hEL : EW Z a0 []) (a1 : Addr) (zc : Int32) (rv : Value) (kb : ClassId) (c0 c1 : Int32) (h0 : Heap) (n0 : Nat) (PA : Arv Z h0 a1 kb .byte (4 : Int32) [(.int (StrChars.lo8 c0)), (.int (StrChars.hi8 c0)), (.int (StrChars.lo8 c1)), (.int (StrChars.hi8 c1))] (.int (0 : Int32))) (hr : rng c0) (PX : Sts Z zc rv) (PO : Old Z n0 h0) :
    Met false Z [] l (⟨"java/lang/StringUTF16", "getChar", "([BI)C"⟩ : MethodName) jdk_52_method_5_code 2 (some .char) ({ frames := 0, cells := 0, slots := 0, locals := 0 } : Room) #[(.ref a1), (.int (0 : Int32))] h0 [] n0 (fun v h => v = some (.int c0) ∧ h0 = h) := by
  refine Met.of (a0 := a0) (Ls := #[.val (.ref a1), .val (.int (0 : Int32))]) (fun z => rfl) (plainFor_of_name pn_java_lang_StringUTF16) hEL (fun m => by first | (simp [entryFrame, mkF, argsToLocals, Value.category]; done) | rfl) ?_
  intro p e s m below meth c B hSf
  obtain ⟨SC, hzc, SA, SH, SL, SF, rf⟩ := id PX
  refine g_getS B (hw _ (List.mem_of_getElem? (i := 103) rfl)) (SA.ext PO.2) d25_0 (q := 3) rfl ?_
  refine gs (mkF m 28 _ []) (fun T A t k => XS.ifYes A B.x rfl (pc0 := 3) (pc' := 28) rfl (B.d d25_3) rfl ((if0 _ _).trans (feq (by decide : ¬ ((1 : Int32) = (0 : Int32)))).2) (by decide) (by decide) k) ?_
  refine gs (mkF m 29 _ [(.int (0 : Int32))]) (fun T A t k => XS.iloadN A B.x rfl (B.d d25_28) rfl k) ?_
  refine gs (mkF m 30 _ [(.int (1 : Int32)), (.int (0 : Int32))]) (fun T A t k => XS.iconst A B.x rfl (B.d d25_29) k) ?_
  refine gs (mkF m 31 _ [(.int (0 : Int32))]) (fun T A t k => XS.ishl A B.x rfl (B.d d25_30) rfl k) ?_
  refine gs (mkF m 32 #[.val (.ref a1), .val (.int (0 : Int32))] []) (fun T A t k => XS.istoreN A B.x rfl (B.d d25_31) rfl (l' := #[.val (.ref a1), .val (.int (0 : Int32))]) rfl k) ?_
  refine gs (mkF m 33 _ [(.ref a1)]) (fun T A t k => XS.aloadN A B.x rfl (B.d d25_32) rfl rfl k) ?_
  refine gs (mkF m 34 _ [(.int (0 : Int32)), (.ref a1)]) (fun T A t k => XS.iloadN A B.x rfl (B.d d25_33) rfl k) ?_
  refine gs (mkF m 37 #[.val (.ref a1), .val (.int (1 : Int32))] [(.int (0 : Int32)), (.ref a1)]) (fun T A t k => XS.iinc A B.x rfl (B.d d25_34) rfl (l' := #[.val (.ref a1), .val (.int (1 : Int32))]) rfl k) ?_
  refine g_ldB B PA ⟨by decide, by decide⟩ (v := (.int (StrChars.lo8 c0))) rfl d25_37 (q := 38) rfl ?_
  refine gs (mkF m 41 _ [(.int (255 : Int32)), (.int (StrChars.lo8 c0))]) (fun T A t k => XS.sipush A B.x rfl (B.d d25_38) k) ?_
  refine gs (mkF m 42 _ [(.int ((StrChars.lo8 c0) &&& (255 : Int32)))]) (fun T A t k => XS.iand A B.x rfl (B.d d25_41) rfl k) ?_
  refine g_getS B (hw _ (List.mem_of_getElem? (i := 104) rfl)) (SH.ext PO.2) d25_42 (q := 45) rfl ?_
  refine gs (mkF m 46 _ [(.int (((StrChars.lo8 c0) &&& (255 : Int32)) <<< ((0 : Int32) &&& 31)))]) (fun T A t k => XS.ishl A B.x rfl (B.d d25_45) rfl k) ?_
  refine gs (mkF m 47 _ [(.ref a1), (.int (((StrChars.lo8 c0) &&& (255 : Int32)) <<< ((0 : Int32) &&& 31)))]) (fun T A t k => XS.aloadN A B.x rfl (B.d d25_46) rfl rfl k) ?_
  refine gs (mkF m 48 _ [(.int (1 : Int32)), (.ref a1), (.int (((StrChars.lo8 c0) &&& (255 : Int32)) <<< ((0 : Int32) &&& 31)))]) (fun T A t k => XS.iloadN A B.x rfl (B.d d25_47) rfl k) ?_
  refine g_ldB B PA ⟨by decide, by decide⟩ (v := (.int (StrChars.hi8 c0))) rfl d25_48 (q := 49) rfl ?_
  refine gs (mkF m 52 _ [(.int (255 : Int32)), (.int (StrChars.hi8 c0)), (.int (((StrChars.lo8 c0) &&& (255 : Int32)) <<< ((0 : Int32) &&& 31)))]) (fun T A t k => XS.sipush A B.x rfl (B.d d25_49) k) ?_
  refine gs (mkF m 53 _ [(.int ((StrChars.hi8 c0) &&& (255 : Int32))), (.int (((StrChars.lo8 c0) &&& (255 : Int32)) <<< ((0 : Int32) &&& 31)))]) (fun T A t k => XS.iand A B.x rfl (B.d d25_52) rfl k) ?_
  refine g_getS B (hw _ (List.mem_of_getElem? (i := 105) rfl)) (SL.ext PO.2) d25_53 (q := 56) rfl ?_
  refine gs (mkF m 57 _ [(.int (((StrChars.hi8 c0) &&& (255 : Int32)) <<< ((8 : Int32) &&& 31))), (.int (((StrChars.lo8 c0) &&& (255 : Int32)) <<< ((0 : Int32) &&& 31)))]) (fun T A t k => XS.ishl A B.x rfl (B.d d25_56) rfl k) ?_
  refine gs (mkF m 58 _ [(.int ((((StrChars.lo8 c0) &&& (255 : Int32)) <<< ((0 : Int32) &&& 31)) ||| (((StrChars.hi8 c0) &&& (255 : Int32)) <<< ((8 : Int32) &&& 31))))]) (fun T A t k => XS.ior A B.x rfl (B.d d25_57) rfl k) ?_
  refine gs (mkF m 59 _ [(.int (((((StrChars.lo8 c0) &&& (255 : Int32)) <<< ((0 : Int32) &&& 31)) ||| (((StrChars.hi8 c0) &&& (255 : Int32)) <<< ((8 : Int32) &&& 31))).toUInt32.toUInt16.toUInt32.toInt32))]) (fun T A t k => XS.i2c A B.x rfl (B.d d25_58) rfl k) ?_
  exact g_retN (t := .char) B (by simp) d25_59 (by decide) (by decide) ⟨congrArg (fun z => some (Value.int z)) (got_ch hr), rfl⟩
set_option maxRecDepth 65536 in
set_option maxHeartbeats 40000000 in
theorem n_comp3_2_0 (l : Launch) (Z : State) (a0 : Array Value) (hw : ∀ d ∈ tables_1, d.before a0 Z = true) (hEL : EW Z a0 []) (a1 : Addr) (zc : Int32) (rv : Value) (kc : ClassId) (c0 c1 : Int32) (h0 : Heap) (n0 : Nat) (PA : Arv Z h0 a1 kc .char (2 : Int32) [(.int c0), (.int c1)] (.int (0 : Int32))) (hn : @LE.le Nat _ n0 h0.size) (ha : @LT.lt Nat _ a1 h0.size) (hr0 : rng c0) (hr1 : rng c1)  (hg : (255 : Int32) < c0) (PX : Sts Z zc rv) (PO : Old Z n0 h0) :
    Met false Z [] l (⟨"java/lang/StringUTF16", "compress", "([CII)[B"⟩ : MethodName) jdk_52_method_16_code 6 (some (.array .byte)) ({ frames := 3, cells := 2, slots := 6, locals := 40 } : Room) #[(.ref a1), (.int (0 : Int32)), (.int (2 : Int32))] h0 [] n0 (fun v h => ∃ (x : Addr) (kb : ClassId), v = some (.ref x) ∧ Keep h0 h [] ∧ @LE.le Nat _ h0.size x ∧ Arv Z h x kb .byte (4 : Int32) [(.int (StrChars.lo8 c0)), (.int (StrChars.hi8 c0)), (.int (StrChars.lo8 c1)), (.int (StrChars.hi8 c1))] (.int (0 : Int32))) := by
  refine Met.of (a0 := a0) (Ls := #[.val (.ref a1), .val (.int (0 : Int32)), .val (.int (2 : Int32)), .unset, .unset, .unset]) (fun z => rfl) (plainFor_of_name pn_java_lang_StringUTF16) hEL (fun m => by first | (simp [entryFrame, mkF, argsToLocals, Value.category]; done) | rfl) ?_
  intro p e s m below meth c B hSf
  obtain ⟨SC, hzc, SA, SH, SL, SF, rf⟩ := id PX
  refine gs (mkF m 1 _ [(.int (2 : Int32))]) (fun T A t k => XS.iloadN A B.x rfl (B.d d16_0) rfl k) ?_
  refine g_newP B (hw _ (List.mem_of_getElem? (i := 20) rfl)) d16_1 (by decide) (cap := 2) (by decide) (by decide) (by decide) (by decide) (q := 3) rfl ?_
  intro h21 b21 k21 g21 E21 S21 A21
  have z21 := E21.1; have y21 : @LT.lt Nat _ b21 h21.size := A21.lt
  have V21 : Arv Z h21 b21 k21 .byte (2 : Int32) [(.int (0 : Int32)), (.int (0 : Int32))] (.int (0 : Int32)) := A21
  refine gs (mkF m 4 #[.val (.ref a1), .val (.int (0 : Int32)), .val (.int (2 : Int32)), .val (.ref b21), .unset, .unset] []) (fun T A t k => XS.astoreN A B.x rfl (B.d d16_3) rfl rfl (l' := #[.val (.ref a1), .val (.int (0 : Int32)), .val (.int (2 : Int32)), .val (.ref b21), .unset, .unset]) rfl k) ?_
  refine gs (mkF m 5 _ [(.ref a1)]) (fun T A t k => XS.aloadN A B.x rfl (B.d d16_4) rfl rfl k) ?_
  refine gs (mkF m 6 _ [(.int (0 : Int32)), (.ref a1)]) (fun T A t k => XS.iloadN A B.x rfl (B.d d16_5) rfl k) ?_
  refine gs (mkF m 7 _ [(.ref b21), (.int (0 : Int32)), (.ref a1)]) (fun T A t k => XS.aloadN A B.x rfl (B.d d16_6) rfl rfl k) ?_
  refine gs (mkF m 8 _ [(.int (0 : Int32)), (.ref b21), (.int (0 : Int32)), (.ref a1)]) (fun T A t k => XS.iconst A B.x rfl (B.d d16_7) k) ?_
  refine gs (mkF m 9 _ [(.int (2 : Int32)), (.int (0 : Int32)), (.ref b21), (.int (0 : Int32)), (.ref a1)]) (fun T A t k => XS.iloadN A B.x rfl (B.d d16_8) rfl k) ?_
  refine g_metN (c_static B (hw _ (List.mem_of_getElem? (i := 78) rfl)) (hw _ (List.mem_of_getElem? (i := 79) rfl)) (hw _ (List.mem_of_getElem? (i := 76) rfl)) (hw _ (List.mem_of_getElem? (i := 80) rfl)) (by decide) rfl (lenOf pd_285bCI5bBII29I rfl) rfl (Nat.le_of_eq rfl) d16_9 rfl (argsL := [(.ref a1), (.int (0 : Int32)), (.ref b21), (.int (0 : Int32)), (.int (2 : Int32))]) (rest := []) (W := 0) (q := 12)) (n_comp5_2_0 l Z a0 hw hEL a1 b21 kc k21 c0 c1 h21 n0 (PA.ext E21) V21 (by omega) (by omega)  hg) (hw _ (List.mem_of_getElem? (i := 80) rfl)) (hw _ (List.mem_of_getElem? (i := 76) rfl)) (by decide) (by decide) (by decide) (by decide) ?_
  intro v22 h22 hz22 hQ22
  obtain ⟨rfl, K22⟩ := hQ22
  have z22 := K22.1
  refine gs (mkF m 14 #[.val (.ref a1), .val (.int (0 : Int32)), .val (.int (2 : Int32)), .val (.ref b21), .val (.int (0 : Int32)), .unset] []) (fun T A t k => XS.istore A B.x rfl (B.d d16_12) rfl (l' := #[.val (.ref a1), .val (.int (0 : Int32)), .val (.int (2 : Int32)), .val (.ref b21), .val (.int (0 : Int32)), .unset]) rfl k) ?_
  refine gs (mkF m 16 _ [(.int (0 : Int32))]) (fun T A t k => XS.iload A B.x rfl (B.d d16_14) rfl k) ?_
  refine gs (mkF m 17 _ [(.int (2 : Int32)), (.int (0 : Int32))]) (fun T A t k => XS.iloadN A B.x rfl (B.d d16_16) rfl k) ?_
  refine gs (mkF m 20 _ []) (fun T A t k => XS.icmpNo A B.x rfl (B.d d16_17) rfl (feq (by decide : ¬ ((0 : Int32) = (2 : Int32)))).1 k) ?_
  refine gs (mkF m 21 _ [(.ref a1)]) (fun T A t k => XS.aloadN A B.x rfl (B.d d16_20) rfl rfl k) ?_
  refine gs (mkF m 22 _ [(.int (0 : Int32)), (.ref a1)]) (fun T A t k => XS.iloadN A B.x rfl (B.d d16_21) rfl k) ?_
  refine gs (mkF m 23 _ [(.int (2 : Int32)), (.int (0 : Int32)), (.ref a1)]) (fun T A t k => XS.iloadN A B.x rfl (B.d d16_22) rfl k) ?_
  refine g_metN (c_static B (hw _ (List.mem_of_getElem? (i := 90) rfl)) (hw _ (List.mem_of_getElem? (i := 91) rfl)) (hw _ (List.mem_of_getElem? (i := 76) rfl)) (hw _ (List.mem_of_getElem? (i := 92) rfl)) (by decide) rfl (lenOf pd_285bCII295bB rfl) rfl (Nat.le_of_eq rfl) d16_23 rfl (argsL := [(.ref a1), (.int (0 : Int32)), (.int (2 : Int32))]) (rest := []) (W := 0) (q := 26)) (n_tob_2 l Z a0 hw hEL a1 zc rv kc c0 c1 h22 n0 ((PA.ext E21).keep K22 (ninS (by omega : @Ne Nat a1 b21) nin0)) (by omega) (by omega) PX ((PO.ext E21).keep K22 (allS (by omega) all0))) (hw _ (List.mem_of_getElem? (i := 92) rfl)) (hw _ (List.mem_of_getElem? (i := 76) rfl)) (by decide) (by decide) (by decide) (by decide) ?_
  intro v23 h23 hz23 hQ23
  obtain ⟨x23, k23, rfl, K23, g23, V23⟩ := hQ23
  have z23 := K23.1; have y23 : @LT.lt Nat _ x23 h23.size := V23.lt
  refine gs (mkF m 28 #[.val (.ref a1), .val (.int (0 : Int32)), .val (.int (2 : Int32)), .val (.ref b21), .val (.int (0 : Int32)), .val (.ref x23)] []) (fun T A t k => XS.astore A B.x rfl (B.d d16_26) rfl rfl (l' := #[.val (.ref a1), .val (.int (0 : Int32)), .val (.int (2 : Int32)), .val (.ref b21), .val (.int (0 : Int32)), .val (.ref x23)]) rfl k) ?_
  refine gs (mkF m 30 _ [(.ref x23)]) (fun T A t k => XS.aload A B.x rfl (B.d d16_28) rfl rfl k) ?_
  refine gs (mkF m 32 _ [(.int (0 : Int32)), (.ref x23)]) (fun T A t k => XS.iload A B.x rfl (B.d d16_30) rfl k) ?_
  refine g_metN (c_static B (hw _ (List.mem_of_getElem? (i := 106) rfl)) (hw _ (List.mem_of_getElem? (i := 107) rfl)) (hw _ (List.mem_of_getElem? (i := 76) rfl)) (hw _ (List.mem_of_getElem? (i := 108) rfl)) (by decide) rfl (lenOf pd_285bBI29C rfl) rfl (Nat.le_of_eq rfl) d16_32 rfl (argsL := [(.ref x23), (.int (0 : Int32))]) (rest := []) (W := 0) (q := 35)) (n_gc_4_0 l Z a0 hw hEL x23 zc rv k23 c0 c1 h23 n0 V23 hr0 PX (((PO.ext E21).keep K22 (allS (by omega) all0)).keep K23 all0)) (hw _ (List.mem_of_getElem? (i := 108) rfl)) (hw _ (List.mem_of_getElem? (i := 76) rfl)) (by decide) (by decide) (by decide) (by decide) ?_
  intro v24 h24 hz24 hQ24
  obtain ⟨rfl, rfl⟩ := hQ24
  refine gs (mkF m 38 _ [(.int (255 : Int32)), (.int c0)]) (fun T A t k => XS.sipush A B.x rfl (B.d d16_35) k) ?_
  refine gs (mkF m 54 _ []) (fun T A t k => XS.icmpYes A B.x rfl (pc0 := 38) (pc' := 54) rfl (B.d d16_38) rfl (tlt (hg : (255 : Int32) < c0)).2.2.1 (by decide) (by decide) k) ?_
  refine gs (mkF m 56 _ [(.ref x23)]) (fun T A t k => XS.aload A B.x rfl (B.d d16_54) rfl rfl k) ?_
  exact g_retA B rfl rfl d16_56 (by decide) (by decide) ⟨_, _, rfl, ((((Keep.refl h0 []).ext E21).trans K22 (allS (Or.inr (by omega)) all0)).trans K23 all0), (by omega), V23⟩
set_option maxRecDepth 65536 in
set_option maxHeartbeats 40000000 in
theorem n_cfl_2_4 (l : Launch) (Z : State) (a0 : Array Value) (hw : ∀ d ∈ tables_1, d.before a0 Z = true) (hEL : EW Z a0 []) (a1 : Addr) (kb : ClassId) (c0 c1 : Int32) (h0 : Heap) (n0 : Nat) (PA : Arv Z h0 a1 kb .byte (4 : Int32) [(.int (StrChars.lo8 c0)), (.int (StrChars.hi8 c0)), (.int (StrChars.lo8 c1)), (.int (StrChars.hi8 c1))] (.int (0 : Int32))) :
    Met false Z [] l (⟨"java/lang/StringUTF16", "coderFromArrayLen", "([BI)B"⟩ : MethodName) jdk_52_method_15_code 2 (some .byte) ({ frames := 0, cells := 0, slots := 0, locals := 0 } : Room) #[(.ref a1), (.int (2 : Int32))] h0 [] n0 (fun v h => v = some (.int (1 : Int32)) ∧ h0 = h) := by
  refine Met.of (a0 := a0) (Ls := #[.val (.ref a1), .val (.int (2 : Int32))]) (fun z => rfl) (plainFor_of_name pn_java_lang_StringUTF16) hEL (fun m => by first | (simp [entryFrame, mkF, argsToLocals, Value.category]; done) | rfl) ?_
  intro p e s m below meth c B hSf
  refine gs (mkF m 1 _ [(.int (2 : Int32))]) (fun T A t k => XS.iloadN A B.x rfl (B.d d18_0) rfl k) ?_
  refine gs (mkF m 2 _ [(.ref a1), (.int (2 : Int32))]) (fun T A t k => XS.aloadN A B.x rfl (B.d d18_1) rfl rfl k) ?_
  refine g_len B PA d18_2 (q := 3) rfl ?_
  refine gs (mkF m 4 _ [(.int (-2 : Int32))]) (fun T A t k => XS.isub A B.x rfl (B.d d18_3) rfl k) ?_
  refine gs (mkF m 6 _ [(.int (31 : Int32)), (.int (-2 : Int32))]) (fun T A t k => XS.bipush A B.x rfl (B.d d18_4) k) ?_
  refine gs (mkF m 7 _ [(.int (1 : Int32))]) (fun T A t k => XS.iushr A B.x rfl (B.d d18_6) rfl k) ?_
  refine gs (mkF m 8 _ [(.int (1 : Int32))]) (fun T A t k => XS.i2b A B.x rfl (B.d d18_7) rfl k) ?_
  exact g_retN (t := .byte) B (by simp) d18_8 (by decide) (by decide) ⟨rfl, rfl⟩
set_option maxRecDepth 65536 in
set_option maxHeartbeats 40000000 in
theorem n_comp5_2_1 (l : Launch) (Z : State) (a0 : Array Value) (hw : ∀ d ∈ tables_1, d.before a0 Z = true) (hEL : EW Z a0 []) (a1 : Addr) (a2 : Addr) (kc kb : ClassId) (c0 c1 : Int32) (h0 : Heap) (n0 : Nat) (PA : Arv Z h0 a1 kc .char (2 : Int32) [(.int c0), (.int c1)] (.int (0 : Int32))) (PB : Arv Z h0 a2 kb .byte (2 : Int32) [(.int (0 : Int32)), (.int (0 : Int32))] (.int (0 : Int32))) (hd : @LE.le Nat _ n0 a2) (hne : @Ne Nat a1 a2) (hl0 : ¬ (255 : Int32) < c0) (hg : (255 : Int32) < c1) :
    Met false Z [] l (⟨"java/lang/StringUTF16", "compress", "([CI[BII)I"⟩ : MethodName) jdk_52_method_21_code 7 (some .int) ({ frames := 0, cells := 0, slots := 0, locals := 0 } : Room) #[(.ref a1), (.int (0 : Int32)), (.ref a2), (.int (0 : Int32)), (.int (2 : Int32))] h0 [] n0 (fun v h => v = some (.int (1 : Int32)) ∧ Keep h0 h [a2]) := by
  refine Met.of (a0 := a0) (Ls := #[.val (.ref a1), .val (.int (0 : Int32)), .val (.ref a2), .val (.int (0 : Int32)), .val (.int (2 : Int32)), .unset, .unset]) (fun z => rfl) (plainFor_of_name pn_java_lang_StringUTF16) hEL (fun m => by first | (simp [entryFrame, mkF, argsToLocals, Value.category]; done) | rfl) ?_
  intro p e s m below meth c B hSf
  refine gs (mkF m 1 _ [(.int (0 : Int32))]) (fun T A t k => XS.iconst A B.x rfl (B.d d17_0) k) ?_
  refine gs (mkF m 3 #[.val (.ref a1), .val (.int (0 : Int32)), .val (.ref a2), .val (.int (0 : Int32)), .val (.int (2 : Int32)), .val (.int (0 : Int32)), .unset] []) (fun T A t k => XS.istore A B.x rfl (B.d d17_1) rfl (l' := #[.val (.ref a1), .val (.int (0 : Int32)), .val (.ref a2), .val (.int (0 : Int32)), .val (.int (2 : Int32)), .val (.int (0 : Int32)), .unset]) rfl k) ?_
  refine gs (mkF m 5 _ [(.int (0 : Int32))]) (fun T A t k => XS.iload A B.x rfl (B.d d17_3) rfl k) ?_
  refine gs (mkF m 7 _ [(.int (2 : Int32)), (.int (0 : Int32))]) (fun T A t k => XS.iload A B.x rfl (B.d d17_5) rfl k) ?_
  refine gs (mkF m 10 _ []) (fun T A t k => XS.icmpNo A B.x rfl (B.d d17_7) rfl (tlt (by decide : (0 : Int32) < (2 : Int32))).2.1 k) ?_
  refine gs (mkF m 11 _ [(.ref a1)]) (fun T A t k => XS.aloadN A B.x rfl (B.d d17_10) rfl rfl k) ?_
  refine gs (mkF m 12 _ [(.int (0 : Int32)), (.ref a1)]) (fun T A t k => XS.iloadN A B.x rfl (B.d d17_11) rfl k) ?_
  refine g_ldC B PA ⟨by decide, by decide⟩ (v := (.int c0)) rfl d17_12 (q := 13) rfl ?_
  refine gs (mkF m 15 #[.val (.ref a1), .val (.int (0 : Int32)), .val (.ref a2), .val (.int (0 : Int32)), .val (.int (2 : Int32)), .val (.int (0 : Int32)), .val (.int c0)] []) (fun T A t k => XS.istore A B.x rfl (B.d d17_13) rfl (l' := #[.val (.ref a1), .val (.int (0 : Int32)), .val (.ref a2), .val (.int (0 : Int32)), .val (.int (2 : Int32)), .val (.int (0 : Int32)), .val (.int c0)]) rfl k) ?_
  refine gs (mkF m 17 _ [(.int c0)]) (fun T A t k => XS.iload A B.x rfl (B.d d17_15) rfl k) ?_
  refine gs (mkF m 20 _ [(.int (255 : Int32)), (.int c0)]) (fun T A t k => XS.sipush A B.x rfl (B.d d17_17) k) ?_
  refine gs (mkF m 26 _ []) (fun T A t k => XS.icmpYes A B.x rfl (pc0 := 20) (pc' := 26) rfl (B.d d17_20) rfl (flt (hl0 : ¬ ((255 : Int32) < c0))).2.2.2 (by decide) (by decide) k) ?_
  refine gs (mkF m 27 _ [(.ref a2)]) (fun T A t k => XS.aloadN A B.x rfl (B.d d17_26) rfl rfl k) ?_
  refine gs (mkF m 28 _ [(.int (0 : Int32)), (.ref a2)]) (fun T A t k => XS.iloadN A B.x rfl (B.d d17_27) rfl k) ?_
  refine gs (mkF m 30 _ [(.int c0), (.int (0 : Int32)), (.ref a2)]) (fun T A t k => XS.iload A B.x rfl (B.d d17_28) rfl k) ?_
  refine gs (mkF m 31 _ [(.int (c0.toInt8.toInt32)), (.int (0 : Int32)), (.ref a2)]) (fun T A t k => XS.i2b A B.x rfl (B.d d17_30) rfl k) ?_
  refine g_stB B PB (x' := (StrChars.lo8 c0)) (nb8 _) ⟨by decide, by decide⟩ (i := 0) rfl (Nat.le_of_ble_eq_true rfl) d17_31 nos (by omega) (q := 32) rfl ?_
  intro h21 W21 A21
  have z21 := W21.size
  have V21 : Arv Z h21 a2 kb .byte (2 : Int32) [(.int (StrChars.lo8 c0)), (.int (0 : Int32))] (.int (0 : Int32)) := A21
  refine gs (mkF m 35 #[.val (.ref a1), .val (.int (1 : Int32)), .val (.ref a2), .val (.int (0 : Int32)), .val (.int (2 : Int32)), .val (.int (0 : Int32)), .val (.int c0)] []) (fun T A t k => XS.iinc A B.x rfl (B.d d17_32) rfl (l' := #[.val (.ref a1), .val (.int (1 : Int32)), .val (.ref a2), .val (.int (0 : Int32)), .val (.int (2 : Int32)), .val (.int (0 : Int32)), .val (.int c0)]) rfl k) ?_
  refine gs (mkF m 38 #[.val (.ref a1), .val (.int (1 : Int32)), .val (.ref a2), .val (.int (1 : Int32)), .val (.int (2 : Int32)), .val (.int (0 : Int32)), .val (.int c0)] []) (fun T A t k => XS.iinc A B.x rfl (B.d d17_35) rfl (l' := #[.val (.ref a1), .val (.int (1 : Int32)), .val (.ref a2), .val (.int (1 : Int32)), .val (.int (2 : Int32)), .val (.int (0 : Int32)), .val (.int c0)]) rfl k) ?_
  refine gs (mkF m 41 #[.val (.ref a1), .val (.int (1 : Int32)), .val (.ref a2), .val (.int (1 : Int32)), .val (.int (2 : Int32)), .val (.int (1 : Int32)), .val (.int c0)] []) (fun T A t k => XS.iinc A B.x rfl (B.d d17_38) rfl (l' := #[.val (.ref a1), .val (.int (1 : Int32)), .val (.ref a2), .val (.int (1 : Int32)), .val (.int (2 : Int32)), .val (.int (1 : Int32)), .val (.int c0)]) rfl k) ?_
  refine gs (mkF m 3 _ []) (fun T A t k => XS.goto A B.x rfl (pc0 := 41) (pc' := 3) rfl (B.d d17_41) (by decide) (by decide) k) ?_
  refine gs (mkF m 5 _ [(.int (1 : Int32))]) (fun T A t k => XS.iload A B.x rfl (B.d d17_3) rfl k) ?_
  refine gs (mkF m 7 _ [(.int (2 : Int32)), (.int (1 : Int32))]) (fun T A t k => XS.iload A B.x rfl (B.d d17_5) rfl k) ?_
  refine gs (mkF m 10 _ []) (fun T A t k => XS.icmpNo A B.x rfl (B.d d17_7) rfl (tlt (by decide : (1 : Int32) < (2 : Int32))).2.1 k) ?_
  refine gs (mkF m 11 _ [(.ref a1)]) (fun T A t k => XS.aloadN A B.x rfl (B.d d17_10) rfl rfl k) ?_
  refine gs (mkF m 12 _ [(.int (1 : Int32)), (.ref a1)]) (fun T A t k => XS.iloadN A B.x rfl (B.d d17_11) rfl k) ?_
  refine g_ldC B (PA.other W21 (by omega : @Ne Nat a1 a2)) ⟨by decide, by decide⟩ (v := (.int c1)) rfl d17_12 (q := 13) rfl ?_
  refine gs (mkF m 15 #[.val (.ref a1), .val (.int (1 : Int32)), .val (.ref a2), .val (.int (1 : Int32)), .val (.int (2 : Int32)), .val (.int (1 : Int32)), .val (.int c1)] []) (fun T A t k => XS.istore A B.x rfl (B.d d17_13) rfl (l' := #[.val (.ref a1), .val (.int (1 : Int32)), .val (.ref a2), .val (.int (1 : Int32)), .val (.int (2 : Int32)), .val (.int (1 : Int32)), .val (.int c1)]) rfl k) ?_
  refine gs (mkF m 17 _ [(.int c1)]) (fun T A t k => XS.iload A B.x rfl (B.d d17_15) rfl k) ?_
  refine gs (mkF m 20 _ [(.int (255 : Int32)), (.int c1)]) (fun T A t k => XS.sipush A B.x rfl (B.d d17_17) k) ?_
  refine gs (mkF m 23 _ []) (fun T A t k => XS.icmpNo A B.x rfl (B.d d17_20) rfl (tlt (hg : (255 : Int32) < c1)).2.2.2 k) ?_
  refine gs (mkF m 25 _ [(.int (1 : Int32))]) (fun T A t k => XS.iload A B.x rfl (B.d d17_23) rfl k) ?_
  exact g_retI B d17_25 (by decide) (by decide) ⟨rfl, ((Keep.refl h0 [a2]).wr W21 (Or.inl (by simp)))⟩
set_option maxRecDepth 65536 in
set_option maxHeartbeats 40000000 in
theorem n_gc_4_1 (l : Launch) (Z : State) (a0 : Array Value) (hw : ∀ d ∈ tables_1, d.before a0 Z = true) (hEL : EW Z a0 []) (a1 : Addr) (zc : Int32) (rv : Value) (kb : ClassId) (c0 c1 : Int32) (h0 : Heap) (n0 : Nat) (PA : Arv Z h0 a1 kb .byte (4 : Int32) [(.int (StrChars.lo8 c0)), (.int (StrChars.hi8 c0)), (.int (StrChars.lo8 c1)), (.int (StrChars.hi8 c1))] (.int (0 : Int32))) (hr : rng c1) (PX : Sts Z zc rv) (PO : Old Z n0 h0) :
    Met false Z [] l (⟨"java/lang/StringUTF16", "getChar", "([BI)C"⟩ : MethodName) jdk_52_method_5_code 2 (some .char) ({ frames := 0, cells := 0, slots := 0, locals := 0 } : Room) #[(.ref a1), (.int (1 : Int32))] h0 [] n0 (fun v h => v = some (.int c1) ∧ h0 = h) := by
  refine Met.of (a0 := a0) (Ls := #[.val (.ref a1), .val (.int (1 : Int32))]) (fun z => rfl) (plainFor_of_name pn_java_lang_StringUTF16) hEL (fun m => by first | (simp [entryFrame, mkF, argsToLocals, Value.category]; done) | rfl) ?_
  intro p e s m below meth c B hSf
  obtain ⟨SC, hzc, SA, SH, SL, SF, rf⟩ := id PX
  refine g_getS B (hw _ (List.mem_of_getElem? (i := 103) rfl)) (SA.ext PO.2) d25_0 (q := 3) rfl ?_
  refine gs (mkF m 28 _ []) (fun T A t k => XS.ifYes A B.x rfl (pc0 := 3) (pc' := 28) rfl (B.d d25_3) rfl ((if0 _ _).trans (feq (by decide : ¬ ((1 : Int32) = (0 : Int32)))).2) (by decide) (by decide) k) ?_
  refine gs (mkF m 29 _ [(.int (1 : Int32))]) (fun T A t k => XS.iloadN A B.x rfl (B.d d25_28) rfl k) ?_
  refine gs (mkF m 30 _ [(.int (1 : Int32)), (.int (1 : Int32))]) (fun T A t k => XS.iconst A B.x rfl (B.d d25_29) k) ?_
  refine gs (mkF m 31 _ [(.int (2 : Int32))]) (fun T A t k => XS.ishl A B.x rfl (B.d d25_30) rfl k) ?_
  refine gs (mkF m 32 #[.val (.ref a1), .val (.int (2 : Int32))] []) (fun T A t k => XS.istoreN A B.x rfl (B.d d25_31) rfl (l' := #[.val (.ref a1), .val (.int (2 : Int32))]) rfl k) ?_
  refine gs (mkF m 33 _ [(.ref a1)]) (fun T A t k => XS.aloadN A B.x rfl (B.d d25_32) rfl rfl k) ?_
  refine gs (mkF m 34 _ [(.int (2 : Int32)), (.ref a1)]) (fun T A t k => XS.iloadN A B.x rfl (B.d d25_33) rfl k) ?_
  refine gs (mkF m 37 #[.val (.ref a1), .val (.int (3 : Int32))] [(.int (2 : Int32)), (.ref a1)]) (fun T A t k => XS.iinc A B.x rfl (B.d d25_34) rfl (l' := #[.val (.ref a1), .val (.int (3 : Int32))]) rfl k) ?_
  refine g_ldB B PA ⟨by decide, by decide⟩ (v := (.int (StrChars.lo8 c1))) rfl d25_37 (q := 38) rfl ?_
  refine gs (mkF m 41 _ [(.int (255 : Int32)), (.int (StrChars.lo8 c1))]) (fun T A t k => XS.sipush A B.x rfl (B.d d25_38) k) ?_
  refine gs (mkF m 42 _ [(.int ((StrChars.lo8 c1) &&& (255 : Int32)))]) (fun T A t k => XS.iand A B.x rfl (B.d d25_41) rfl k) ?_
  refine g_getS B (hw _ (List.mem_of_getElem? (i := 104) rfl)) (SH.ext PO.2) d25_42 (q := 45) rfl ?_
  refine gs (mkF m 46 _ [(.int (((StrChars.lo8 c1) &&& (255 : Int32)) <<< ((0 : Int32) &&& 31)))]) (fun T A t k => XS.ishl A B.x rfl (B.d d25_45) rfl k) ?_
  refine gs (mkF m 47 _ [(.ref a1), (.int (((StrChars.lo8 c1) &&& (255 : Int32)) <<< ((0 : Int32) &&& 31)))]) (fun T A t k => XS.aloadN A B.x rfl (B.d d25_46) rfl rfl k) ?_
  refine gs (mkF m 48 _ [(.int (3 : Int32)), (.ref a1), (.int (((StrChars.lo8 c1) &&& (255 : Int32)) <<< ((0 : Int32) &&& 31)))]) (fun T A t k => XS.iloadN A B.x rfl (B.d d25_47) rfl k) ?_
  refine g_ldB B PA ⟨by decide, by decide⟩ (v := (.int (StrChars.hi8 c1))) rfl d25_48 (q := 49) rfl ?_
  refine gs (mkF m 52 _ [(.int (255 : Int32)), (.int (StrChars.hi8 c1)), (.int (((StrChars.lo8 c1) &&& (255 : Int32)) <<< ((0 : Int32) &&& 31)))]) (fun T A t k => XS.sipush A B.x rfl (B.d d25_49) k) ?_
  refine gs (mkF m 53 _ [(.int ((StrChars.hi8 c1) &&& (255 : Int32))), (.int (((StrChars.lo8 c1) &&& (255 : Int32)) <<< ((0 : Int32) &&& 31)))]) (fun T A t k => XS.iand A B.x rfl (B.d d25_52) rfl k) ?_
  refine g_getS B (hw _ (List.mem_of_getElem? (i := 105) rfl)) (SL.ext PO.2) d25_53 (q := 56) rfl ?_
  refine gs (mkF m 57 _ [(.int (((StrChars.hi8 c1) &&& (255 : Int32)) <<< ((8 : Int32) &&& 31))), (.int (((StrChars.lo8 c1) &&& (255 : Int32)) <<< ((0 : Int32) &&& 31)))]) (fun T A t k => XS.ishl A B.x rfl (B.d d25_56) rfl k) ?_
  refine gs (mkF m 58 _ [(.int ((((StrChars.lo8 c1) &&& (255 : Int32)) <<< ((0 : Int32) &&& 31)) ||| (((StrChars.hi8 c1) &&& (255 : Int32)) <<< ((8 : Int32) &&& 31))))]) (fun T A t k => XS.ior A B.x rfl (B.d d25_57) rfl k) ?_
  refine gs (mkF m 59 _ [(.int (((((StrChars.lo8 c1) &&& (255 : Int32)) <<< ((0 : Int32) &&& 31)) ||| (((StrChars.hi8 c1) &&& (255 : Int32)) <<< ((8 : Int32) &&& 31))).toUInt32.toUInt16.toUInt32.toInt32))]) (fun T A t k => XS.i2c A B.x rfl (B.d d25_58) rfl k) ?_
  exact g_retN (t := .char) B (by simp) d25_59 (by decide) (by decide) ⟨congrArg (fun z => some (Value.int z)) (got_ch hr), rfl⟩
set_option maxRecDepth 65536 in
set_option maxHeartbeats 40000000 in
theorem n_comp3_2_1 (l : Launch) (Z : State) (a0 : Array Value) (hw : ∀ d ∈ tables_1, d.before a0 Z = true) (hEL : EW Z a0 []) (a1 : Addr) (zc : Int32) (rv : Value) (kc : ClassId) (c0 c1 : Int32) (h0 : Heap) (n0 : Nat) (PA : Arv Z h0 a1 kc .char (2 : Int32) [(.int c0), (.int c1)] (.int (0 : Int32))) (hn : @LE.le Nat _ n0 h0.size) (ha : @LT.lt Nat _ a1 h0.size) (hr0 : rng c0) (hr1 : rng c1) (hl0 : ¬ (255 : Int32) < c0) (hg : (255 : Int32) < c1) (PX : Sts Z zc rv) (PO : Old Z n0 h0) :
    Met false Z [] l (⟨"java/lang/StringUTF16", "compress", "([CII)[B"⟩ : MethodName) jdk_52_method_16_code 6 (some (.array .byte)) ({ frames := 3, cells := 2, slots := 6, locals := 40 } : Room) #[(.ref a1), (.int (0 : Int32)), (.int (2 : Int32))] h0 [] n0 (fun v h => ∃ (x : Addr) (kb : ClassId), v = some (.ref x) ∧ Keep h0 h [] ∧ @LE.le Nat _ h0.size x ∧ Arv Z h x kb .byte (4 : Int32) [(.int (StrChars.lo8 c0)), (.int (StrChars.hi8 c0)), (.int (StrChars.lo8 c1)), (.int (StrChars.hi8 c1))] (.int (0 : Int32))) := by
  refine Met.of (a0 := a0) (Ls := #[.val (.ref a1), .val (.int (0 : Int32)), .val (.int (2 : Int32)), .unset, .unset, .unset]) (fun z => rfl) (plainFor_of_name pn_java_lang_StringUTF16) hEL (fun m => by first | (simp [entryFrame, mkF, argsToLocals, Value.category]; done) | rfl) ?_
  intro p e s m below meth c B hSf
  obtain ⟨SC, hzc, SA, SH, SL, SF, rf⟩ := id PX
  refine gs (mkF m 1 _ [(.int (2 : Int32))]) (fun T A t k => XS.iloadN A B.x rfl (B.d d16_0) rfl k) ?_
  refine g_newP B (hw _ (List.mem_of_getElem? (i := 20) rfl)) d16_1 (by decide) (cap := 2) (by decide) (by decide) (by decide) (by decide) (q := 3) rfl ?_
  intro h21 b21 k21 g21 E21 S21 A21
  have z21 := E21.1; have y21 : @LT.lt Nat _ b21 h21.size := A21.lt
  have V21 : Arv Z h21 b21 k21 .byte (2 : Int32) [(.int (0 : Int32)), (.int (0 : Int32))] (.int (0 : Int32)) := A21
  refine gs (mkF m 4 #[.val (.ref a1), .val (.int (0 : Int32)), .val (.int (2 : Int32)), .val (.ref b21), .unset, .unset] []) (fun T A t k => XS.astoreN A B.x rfl (B.d d16_3) rfl rfl (l' := #[.val (.ref a1), .val (.int (0 : Int32)), .val (.int (2 : Int32)), .val (.ref b21), .unset, .unset]) rfl k) ?_
  refine gs (mkF m 5 _ [(.ref a1)]) (fun T A t k => XS.aloadN A B.x rfl (B.d d16_4) rfl rfl k) ?_
  refine gs (mkF m 6 _ [(.int (0 : Int32)), (.ref a1)]) (fun T A t k => XS.iloadN A B.x rfl (B.d d16_5) rfl k) ?_
  refine gs (mkF m 7 _ [(.ref b21), (.int (0 : Int32)), (.ref a1)]) (fun T A t k => XS.aloadN A B.x rfl (B.d d16_6) rfl rfl k) ?_
  refine gs (mkF m 8 _ [(.int (0 : Int32)), (.ref b21), (.int (0 : Int32)), (.ref a1)]) (fun T A t k => XS.iconst A B.x rfl (B.d d16_7) k) ?_
  refine gs (mkF m 9 _ [(.int (2 : Int32)), (.int (0 : Int32)), (.ref b21), (.int (0 : Int32)), (.ref a1)]) (fun T A t k => XS.iloadN A B.x rfl (B.d d16_8) rfl k) ?_
  refine g_metN (c_static B (hw _ (List.mem_of_getElem? (i := 78) rfl)) (hw _ (List.mem_of_getElem? (i := 79) rfl)) (hw _ (List.mem_of_getElem? (i := 76) rfl)) (hw _ (List.mem_of_getElem? (i := 80) rfl)) (by decide) rfl (lenOf pd_285bCI5bBII29I rfl) rfl (Nat.le_of_eq rfl) d16_9 rfl (argsL := [(.ref a1), (.int (0 : Int32)), (.ref b21), (.int (0 : Int32)), (.int (2 : Int32))]) (rest := []) (W := 0) (q := 12)) (n_comp5_2_1 l Z a0 hw hEL a1 b21 kc k21 c0 c1 h21 n0 (PA.ext E21) V21 (by omega) (by omega) hl0 hg) (hw _ (List.mem_of_getElem? (i := 80) rfl)) (hw _ (List.mem_of_getElem? (i := 76) rfl)) (by decide) (by decide) (by decide) (by decide) ?_
  intro v22 h22 hz22 hQ22
  obtain ⟨rfl, K22⟩ := hQ22
  have z22 := K22.1
  refine gs (mkF m 14 #[.val (.ref a1), .val (.int (0 : Int32)), .val (.int (2 : Int32)), .val (.ref b21), .val (.int (1 : Int32)), .unset] []) (fun T A t k => XS.istore A B.x rfl (B.d d16_12) rfl (l' := #[.val (.ref a1), .val (.int (0 : Int32)), .val (.int (2 : Int32)), .val (.ref b21), .val (.int (1 : Int32)), .unset]) rfl k) ?_
  refine gs (mkF m 16 _ [(.int (1 : Int32))]) (fun T A t k => XS.iload A B.x rfl (B.d d16_14) rfl k) ?_
  refine gs (mkF m 17 _ [(.int (2 : Int32)), (.int (1 : Int32))]) (fun T A t k => XS.iloadN A B.x rfl (B.d d16_16) rfl k) ?_
  refine gs (mkF m 20 _ []) (fun T A t k => XS.icmpNo A B.x rfl (B.d d16_17) rfl (feq (by decide : ¬ ((1 : Int32) = (2 : Int32)))).1 k) ?_
  refine gs (mkF m 21 _ [(.ref a1)]) (fun T A t k => XS.aloadN A B.x rfl (B.d d16_20) rfl rfl k) ?_
  refine gs (mkF m 22 _ [(.int (0 : Int32)), (.ref a1)]) (fun T A t k => XS.iloadN A B.x rfl (B.d d16_21) rfl k) ?_
  refine gs (mkF m 23 _ [(.int (2 : Int32)), (.int (0 : Int32)), (.ref a1)]) (fun T A t k => XS.iloadN A B.x rfl (B.d d16_22) rfl k) ?_
  refine g_metN (c_static B (hw _ (List.mem_of_getElem? (i := 90) rfl)) (hw _ (List.mem_of_getElem? (i := 91) rfl)) (hw _ (List.mem_of_getElem? (i := 76) rfl)) (hw _ (List.mem_of_getElem? (i := 92) rfl)) (by decide) rfl (lenOf pd_285bCII295bB rfl) rfl (Nat.le_of_eq rfl) d16_23 rfl (argsL := [(.ref a1), (.int (0 : Int32)), (.int (2 : Int32))]) (rest := []) (W := 0) (q := 26)) (n_tob_2 l Z a0 hw hEL a1 zc rv kc c0 c1 h22 n0 ((PA.ext E21).keep K22 (ninS (by omega : @Ne Nat a1 b21) nin0)) (by omega) (by omega) PX ((PO.ext E21).keep K22 (allS (by omega) all0))) (hw _ (List.mem_of_getElem? (i := 92) rfl)) (hw _ (List.mem_of_getElem? (i := 76) rfl)) (by decide) (by decide) (by decide) (by decide) ?_
  intro v23 h23 hz23 hQ23
  obtain ⟨x23, k23, rfl, K23, g23, V23⟩ := hQ23
  have z23 := K23.1; have y23 : @LT.lt Nat _ x23 h23.size := V23.lt
  refine gs (mkF m 28 #[.val (.ref a1), .val (.int (0 : Int32)), .val (.int (2 : Int32)), .val (.ref b21), .val (.int (1 : Int32)), .val (.ref x23)] []) (fun T A t k => XS.astore A B.x rfl (B.d d16_26) rfl rfl (l' := #[.val (.ref a1), .val (.int (0 : Int32)), .val (.int (2 : Int32)), .val (.ref b21), .val (.int (1 : Int32)), .val (.ref x23)]) rfl k) ?_
  refine gs (mkF m 30 _ [(.ref x23)]) (fun T A t k => XS.aload A B.x rfl (B.d d16_28) rfl rfl k) ?_
  refine gs (mkF m 32 _ [(.int (1 : Int32)), (.ref x23)]) (fun T A t k => XS.iload A B.x rfl (B.d d16_30) rfl k) ?_
  refine g_metN (c_static B (hw _ (List.mem_of_getElem? (i := 106) rfl)) (hw _ (List.mem_of_getElem? (i := 107) rfl)) (hw _ (List.mem_of_getElem? (i := 76) rfl)) (hw _ (List.mem_of_getElem? (i := 108) rfl)) (by decide) rfl (lenOf pd_285bBI29C rfl) rfl (Nat.le_of_eq rfl) d16_32 rfl (argsL := [(.ref x23), (.int (1 : Int32))]) (rest := []) (W := 0) (q := 35)) (n_gc_4_1 l Z a0 hw hEL x23 zc rv k23 c0 c1 h23 n0 V23 hr1 PX (((PO.ext E21).keep K22 (allS (by omega) all0)).keep K23 all0)) (hw _ (List.mem_of_getElem? (i := 108) rfl)) (hw _ (List.mem_of_getElem? (i := 76) rfl)) (by decide) (by decide) (by decide) (by decide) ?_
  intro v24 h24 hz24 hQ24
  obtain ⟨rfl, rfl⟩ := hQ24
  refine gs (mkF m 38 _ [(.int (255 : Int32)), (.int c1)]) (fun T A t k => XS.sipush A B.x rfl (B.d d16_35) k) ?_
  refine gs (mkF m 54 _ []) (fun T A t k => XS.icmpYes A B.x rfl (pc0 := 38) (pc' := 54) rfl (B.d d16_38) rfl (tlt (hg : (255 : Int32) < c1)).2.2.1 (by decide) (by decide) k) ?_
  refine gs (mkF m 56 _ [(.ref x23)]) (fun T A t k => XS.aload A B.x rfl (B.d d16_54) rfl rfl k) ?_
  exact g_retA B rfl rfl d16_56 (by decide) (by decide) ⟨_, _, rfl, ((((Keep.refl h0 []).ext E21).trans K22 (allS (Or.inr (by omega)) all0)).trans K23 all0), (by omega), V23⟩
set_option maxRecDepth 65536 in
set_option maxHeartbeats 40000000 in
theorem n_comp5_2_2 (l : Launch) (Z : State) (a0 : Array Value) (hw : ∀ d ∈ tables_1, d.before a0 Z = true) (hEL : EW Z a0 []) (a1 : Addr) (a2 : Addr) (kc kb : ClassId) (c0 c1 : Int32) (h0 : Heap) (n0 : Nat) (PA : Arv Z h0 a1 kc .char (2 : Int32) [(.int c0), (.int c1)] (.int (0 : Int32))) (PB : Arv Z h0 a2 kb .byte (2 : Int32) [(.int (0 : Int32)), (.int (0 : Int32))] (.int (0 : Int32))) (hd : @LE.le Nat _ n0 a2) (hne : @Ne Nat a1 a2) (hl0 : ¬ (255 : Int32) < c0) (hl1 : ¬ (255 : Int32) < c1) :
    Met false Z [] l (⟨"java/lang/StringUTF16", "compress", "([CI[BII)I"⟩ : MethodName) jdk_52_method_21_code 7 (some .int) ({ frames := 0, cells := 0, slots := 0, locals := 0 } : Room) #[(.ref a1), (.int (0 : Int32)), (.ref a2), (.int (0 : Int32)), (.int (2 : Int32))] h0 [] n0 (fun v h => v = some (.int (2 : Int32)) ∧ Keep h0 h [a2] ∧ Arv Z h a2 kb .byte (2 : Int32) [(.int (StrChars.lo8 c0)), (.int (StrChars.lo8 c1))] (.int (0 : Int32))) := by
  refine Met.of (a0 := a0) (Ls := #[.val (.ref a1), .val (.int (0 : Int32)), .val (.ref a2), .val (.int (0 : Int32)), .val (.int (2 : Int32)), .unset, .unset]) (fun z => rfl) (plainFor_of_name pn_java_lang_StringUTF16) hEL (fun m => by first | (simp [entryFrame, mkF, argsToLocals, Value.category]; done) | rfl) ?_
  intro p e s m below meth c B hSf
  refine gs (mkF m 1 _ [(.int (0 : Int32))]) (fun T A t k => XS.iconst A B.x rfl (B.d d17_0) k) ?_
  refine gs (mkF m 3 #[.val (.ref a1), .val (.int (0 : Int32)), .val (.ref a2), .val (.int (0 : Int32)), .val (.int (2 : Int32)), .val (.int (0 : Int32)), .unset] []) (fun T A t k => XS.istore A B.x rfl (B.d d17_1) rfl (l' := #[.val (.ref a1), .val (.int (0 : Int32)), .val (.ref a2), .val (.int (0 : Int32)), .val (.int (2 : Int32)), .val (.int (0 : Int32)), .unset]) rfl k) ?_
  refine gs (mkF m 5 _ [(.int (0 : Int32))]) (fun T A t k => XS.iload A B.x rfl (B.d d17_3) rfl k) ?_
  refine gs (mkF m 7 _ [(.int (2 : Int32)), (.int (0 : Int32))]) (fun T A t k => XS.iload A B.x rfl (B.d d17_5) rfl k) ?_
  refine gs (mkF m 10 _ []) (fun T A t k => XS.icmpNo A B.x rfl (B.d d17_7) rfl (tlt (by decide : (0 : Int32) < (2 : Int32))).2.1 k) ?_
  refine gs (mkF m 11 _ [(.ref a1)]) (fun T A t k => XS.aloadN A B.x rfl (B.d d17_10) rfl rfl k) ?_
  refine gs (mkF m 12 _ [(.int (0 : Int32)), (.ref a1)]) (fun T A t k => XS.iloadN A B.x rfl (B.d d17_11) rfl k) ?_
  refine g_ldC B PA ⟨by decide, by decide⟩ (v := (.int c0)) rfl d17_12 (q := 13) rfl ?_
  refine gs (mkF m 15 #[.val (.ref a1), .val (.int (0 : Int32)), .val (.ref a2), .val (.int (0 : Int32)), .val (.int (2 : Int32)), .val (.int (0 : Int32)), .val (.int c0)] []) (fun T A t k => XS.istore A B.x rfl (B.d d17_13) rfl (l' := #[.val (.ref a1), .val (.int (0 : Int32)), .val (.ref a2), .val (.int (0 : Int32)), .val (.int (2 : Int32)), .val (.int (0 : Int32)), .val (.int c0)]) rfl k) ?_
  refine gs (mkF m 17 _ [(.int c0)]) (fun T A t k => XS.iload A B.x rfl (B.d d17_15) rfl k) ?_
  refine gs (mkF m 20 _ [(.int (255 : Int32)), (.int c0)]) (fun T A t k => XS.sipush A B.x rfl (B.d d17_17) k) ?_
  refine gs (mkF m 26 _ []) (fun T A t k => XS.icmpYes A B.x rfl (pc0 := 20) (pc' := 26) rfl (B.d d17_20) rfl (flt (hl0 : ¬ ((255 : Int32) < c0))).2.2.2 (by decide) (by decide) k) ?_
  refine gs (mkF m 27 _ [(.ref a2)]) (fun T A t k => XS.aloadN A B.x rfl (B.d d17_26) rfl rfl k) ?_
  refine gs (mkF m 28 _ [(.int (0 : Int32)), (.ref a2)]) (fun T A t k => XS.iloadN A B.x rfl (B.d d17_27) rfl k) ?_
  refine gs (mkF m 30 _ [(.int c0), (.int (0 : Int32)), (.ref a2)]) (fun T A t k => XS.iload A B.x rfl (B.d d17_28) rfl k) ?_
  refine gs (mkF m 31 _ [(.int (c0.toInt8.toInt32)), (.int (0 : Int32)), (.ref a2)]) (fun T A t k => XS.i2b A B.x rfl (B.d d17_30) rfl k) ?_
  refine g_stB B PB (x' := (StrChars.lo8 c0)) (nb8 _) ⟨by decide, by decide⟩ (i := 0) rfl (Nat.le_of_ble_eq_true rfl) d17_31 nos (by omega) (q := 32) rfl ?_
  intro h21 W21 A21
  have z21 := W21.size
  have V21 : Arv Z h21 a2 kb .byte (2 : Int32) [(.int (StrChars.lo8 c0)), (.int (0 : Int32))] (.int (0 : Int32)) := A21
  refine gs (mkF m 35 #[.val (.ref a1), .val (.int (1 : Int32)), .val (.ref a2), .val (.int (0 : Int32)), .val (.int (2 : Int32)), .val (.int (0 : Int32)), .val (.int c0)] []) (fun T A t k => XS.iinc A B.x rfl (B.d d17_32) rfl (l' := #[.val (.ref a1), .val (.int (1 : Int32)), .val (.ref a2), .val (.int (0 : Int32)), .val (.int (2 : Int32)), .val (.int (0 : Int32)), .val (.int c0)]) rfl k) ?_
  refine gs (mkF m 38 #[.val (.ref a1), .val (.int (1 : Int32)), .val (.ref a2), .val (.int (1 : Int32)), .val (.int (2 : Int32)), .val (.int (0 : Int32)), .val (.int c0)] []) (fun T A t k => XS.iinc A B.x rfl (B.d d17_35) rfl (l' := #[.val (.ref a1), .val (.int (1 : Int32)), .val (.ref a2), .val (.int (1 : Int32)), .val (.int (2 : Int32)), .val (.int (0 : Int32)), .val (.int c0)]) rfl k) ?_
  refine gs (mkF m 41 #[.val (.ref a1), .val (.int (1 : Int32)), .val (.ref a2), .val (.int (1 : Int32)), .val (.int (2 : Int32)), .val (.int (1 : Int32)), .val (.int c0)] []) (fun T A t k => XS.iinc A B.x rfl (B.d d17_38) rfl (l' := #[.val (.ref a1), .val (.int (1 : Int32)), .val (.ref a2), .val (.int (1 : Int32)), .val (.int (2 : Int32)), .val (.int (1 : Int32)), .val (.int c0)]) rfl k) ?_
  refine gs (mkF m 3 _ []) (fun T A t k => XS.goto A B.x rfl (pc0 := 41) (pc' := 3) rfl (B.d d17_41) (by decide) (by decide) k) ?_
  refine gs (mkF m 5 _ [(.int (1 : Int32))]) (fun T A t k => XS.iload A B.x rfl (B.d d17_3) rfl k) ?_
  refine gs (mkF m 7 _ [(.int (2 : Int32)), (.int (1 : Int32))]) (fun T A t k => XS.iload A B.x rfl (B.d d17_5) rfl k) ?_
  refine gs (mkF m 10 _ []) (fun T A t k => XS.icmpNo A B.x rfl (B.d d17_7) rfl (tlt (by decide : (1 : Int32) < (2 : Int32))).2.1 k) ?_
  refine gs (mkF m 11 _ [(.ref a1)]) (fun T A t k => XS.aloadN A B.x rfl (B.d d17_10) rfl rfl k) ?_
  refine gs (mkF m 12 _ [(.int (1 : Int32)), (.ref a1)]) (fun T A t k => XS.iloadN A B.x rfl (B.d d17_11) rfl k) ?_
  refine g_ldC B (PA.other W21 (by omega : @Ne Nat a1 a2)) ⟨by decide, by decide⟩ (v := (.int c1)) rfl d17_12 (q := 13) rfl ?_
  refine gs (mkF m 15 #[.val (.ref a1), .val (.int (1 : Int32)), .val (.ref a2), .val (.int (1 : Int32)), .val (.int (2 : Int32)), .val (.int (1 : Int32)), .val (.int c1)] []) (fun T A t k => XS.istore A B.x rfl (B.d d17_13) rfl (l' := #[.val (.ref a1), .val (.int (1 : Int32)), .val (.ref a2), .val (.int (1 : Int32)), .val (.int (2 : Int32)), .val (.int (1 : Int32)), .val (.int c1)]) rfl k) ?_
  refine gs (mkF m 17 _ [(.int c1)]) (fun T A t k => XS.iload A B.x rfl (B.d d17_15) rfl k) ?_
  refine gs (mkF m 20 _ [(.int (255 : Int32)), (.int c1)]) (fun T A t k => XS.sipush A B.x rfl (B.d d17_17) k) ?_
  refine gs (mkF m 26 _ []) (fun T A t k => XS.icmpYes A B.x rfl (pc0 := 20) (pc' := 26) rfl (B.d d17_20) rfl (flt (hl1 : ¬ ((255 : Int32) < c1))).2.2.2 (by decide) (by decide) k) ?_
  refine gs (mkF m 27 _ [(.ref a2)]) (fun T A t k => XS.aloadN A B.x rfl (B.d d17_26) rfl rfl k) ?_
  refine gs (mkF m 28 _ [(.int (1 : Int32)), (.ref a2)]) (fun T A t k => XS.iloadN A B.x rfl (B.d d17_27) rfl k) ?_
  refine gs (mkF m 30 _ [(.int c1), (.int (1 : Int32)), (.ref a2)]) (fun T A t k => XS.iload A B.x rfl (B.d d17_28) rfl k) ?_
  refine gs (mkF m 31 _ [(.int (c1.toInt8.toInt32)), (.int (1 : Int32)), (.ref a2)]) (fun T A t k => XS.i2b A B.x rfl (B.d d17_30) rfl k) ?_
  refine g_stB B V21 (x' := (StrChars.lo8 c1)) (nb8 _) ⟨by decide, by decide⟩ (i := 1) rfl (Nat.le_of_ble_eq_true rfl) d17_31 nos (by omega) (q := 32) rfl ?_
  intro h22 W22 A22
  have z22 := W22.size
  have V22 : Arv Z h22 a2 kb .byte (2 : Int32) [(.int (StrChars.lo8 c0)), (.int (StrChars.lo8 c1))] (.int (0 : Int32)) := A22
  refine gs (mkF m 35 #[.val (.ref a1), .val (.int (2 : Int32)), .val (.ref a2), .val (.int (1 : Int32)), .val (.int (2 : Int32)), .val (.int (1 : Int32)), .val (.int c1)] []) (fun T A t k => XS.iinc A B.x rfl (B.d d17_32) rfl (l' := #[.val (.ref a1), .val (.int (2 : Int32)), .val (.ref a2), .val (.int (1 : Int32)), .val (.int (2 : Int32)), .val (.int (1 : Int32)), .val (.int c1)]) rfl k) ?_
  refine gs (mkF m 38 #[.val (.ref a1), .val (.int (2 : Int32)), .val (.ref a2), .val (.int (2 : Int32)), .val (.int (2 : Int32)), .val (.int (1 : Int32)), .val (.int c1)] []) (fun T A t k => XS.iinc A B.x rfl (B.d d17_35) rfl (l' := #[.val (.ref a1), .val (.int (2 : Int32)), .val (.ref a2), .val (.int (2 : Int32)), .val (.int (2 : Int32)), .val (.int (1 : Int32)), .val (.int c1)]) rfl k) ?_
  refine gs (mkF m 41 #[.val (.ref a1), .val (.int (2 : Int32)), .val (.ref a2), .val (.int (2 : Int32)), .val (.int (2 : Int32)), .val (.int (2 : Int32)), .val (.int c1)] []) (fun T A t k => XS.iinc A B.x rfl (B.d d17_38) rfl (l' := #[.val (.ref a1), .val (.int (2 : Int32)), .val (.ref a2), .val (.int (2 : Int32)), .val (.int (2 : Int32)), .val (.int (2 : Int32)), .val (.int c1)]) rfl k) ?_
  refine gs (mkF m 3 _ []) (fun T A t k => XS.goto A B.x rfl (pc0 := 41) (pc' := 3) rfl (B.d d17_41) (by decide) (by decide) k) ?_
  refine gs (mkF m 5 _ [(.int (2 : Int32))]) (fun T A t k => XS.iload A B.x rfl (B.d d17_3) rfl k) ?_
  refine gs (mkF m 7 _ [(.int (2 : Int32)), (.int (2 : Int32))]) (fun T A t k => XS.iload A B.x rfl (B.d d17_5) rfl k) ?_
  refine gs (mkF m 44 _ []) (fun T A t k => XS.icmpYes A B.x rfl (pc0 := 7) (pc' := 44) rfl (B.d d17_7) rfl (flt (by decide : ¬ ((2 : Int32) < (2 : Int32)))).2.1 (by decide) (by decide) k) ?_
  refine gs (mkF m 46 _ [(.int (2 : Int32))]) (fun T A t k => XS.iload A B.x rfl (B.d d17_44) rfl k) ?_
  exact g_retI B d17_46 (by decide) (by decide) ⟨rfl, (((Keep.refl h0 [a2]).wr W21 (Or.inl (by simp))).wr W22 (Or.inl (by simp))), V22⟩
set_option maxRecDepth 65536 in
set_option maxHeartbeats 40000000 in
theorem n_comp3_2_2 (l : Launch) (Z : State) (a0 : Array Value) (hw : ∀ d ∈ tables_1, d.before a0 Z = true) (hEL : EW Z a0 []) (a1 : Addr) (zc : Int32) (rv : Value) (kc : ClassId) (c0 c1 : Int32) (h0 : Heap) (n0 : Nat) (PA : Arv Z h0 a1 kc .char (2 : Int32) [(.int c0), (.int c1)] (.int (0 : Int32))) (hn : @LE.le Nat _ n0 h0.size) (ha : @LT.lt Nat _ a1 h0.size) (hr0 : rng c0) (hr1 : rng c1) (hl0 : ¬ (255 : Int32) < c0) (hl1 : ¬ (255 : Int32) < c1) (PX : Sts Z zc rv) (PO : Old Z n0 h0) :
    Met false Z [] l (⟨"java/lang/StringUTF16", "compress", "([CII)[B"⟩ : MethodName) jdk_52_method_16_code 6 (some (.array .byte)) ({ frames := 1, cells := 1, slots := 2, locals := 18 } : Room) #[(.ref a1), (.int (0 : Int32)), (.int (2 : Int32))] h0 [] n0 (fun v h => ∃ (x : Addr) (kb : ClassId), v = some (.ref x) ∧ Keep h0 h [] ∧ @LE.le Nat _ h0.size x ∧ Arv Z h x kb .byte (2 : Int32) [(.int (StrChars.lo8 c0)), (.int (StrChars.lo8 c1))] (.int (0 : Int32))) := by
  refine Met.of (a0 := a0) (Ls := #[.val (.ref a1), .val (.int (0 : Int32)), .val (.int (2 : Int32)), .unset, .unset, .unset]) (fun z => rfl) (plainFor_of_name pn_java_lang_StringUTF16) hEL (fun m => by first | (simp [entryFrame, mkF, argsToLocals, Value.category]; done) | rfl) ?_
  intro p e s m below meth c B hSf
  obtain ⟨SC, hzc, SA, SH, SL, SF, rf⟩ := id PX
  refine gs (mkF m 1 _ [(.int (2 : Int32))]) (fun T A t k => XS.iloadN A B.x rfl (B.d d16_0) rfl k) ?_
  refine g_newP B (hw _ (List.mem_of_getElem? (i := 20) rfl)) d16_1 (by decide) (cap := 2) (by decide) (by decide) (by decide) (by decide) (q := 3) rfl ?_
  intro h21 b21 k21 g21 E21 S21 A21
  have z21 := E21.1; have y21 : @LT.lt Nat _ b21 h21.size := A21.lt
  have V21 : Arv Z h21 b21 k21 .byte (2 : Int32) [(.int (0 : Int32)), (.int (0 : Int32))] (.int (0 : Int32)) := A21
  refine gs (mkF m 4 #[.val (.ref a1), .val (.int (0 : Int32)), .val (.int (2 : Int32)), .val (.ref b21), .unset, .unset] []) (fun T A t k => XS.astoreN A B.x rfl (B.d d16_3) rfl rfl (l' := #[.val (.ref a1), .val (.int (0 : Int32)), .val (.int (2 : Int32)), .val (.ref b21), .unset, .unset]) rfl k) ?_
  refine gs (mkF m 5 _ [(.ref a1)]) (fun T A t k => XS.aloadN A B.x rfl (B.d d16_4) rfl rfl k) ?_
  refine gs (mkF m 6 _ [(.int (0 : Int32)), (.ref a1)]) (fun T A t k => XS.iloadN A B.x rfl (B.d d16_5) rfl k) ?_
  refine gs (mkF m 7 _ [(.ref b21), (.int (0 : Int32)), (.ref a1)]) (fun T A t k => XS.aloadN A B.x rfl (B.d d16_6) rfl rfl k) ?_
  refine gs (mkF m 8 _ [(.int (0 : Int32)), (.ref b21), (.int (0 : Int32)), (.ref a1)]) (fun T A t k => XS.iconst A B.x rfl (B.d d16_7) k) ?_
  refine gs (mkF m 9 _ [(.int (2 : Int32)), (.int (0 : Int32)), (.ref b21), (.int (0 : Int32)), (.ref a1)]) (fun T A t k => XS.iloadN A B.x rfl (B.d d16_8) rfl k) ?_
  refine g_metN (c_static B (hw _ (List.mem_of_getElem? (i := 78) rfl)) (hw _ (List.mem_of_getElem? (i := 79) rfl)) (hw _ (List.mem_of_getElem? (i := 76) rfl)) (hw _ (List.mem_of_getElem? (i := 80) rfl)) (by decide) rfl (lenOf pd_285bCI5bBII29I rfl) rfl (Nat.le_of_eq rfl) d16_9 rfl (argsL := [(.ref a1), (.int (0 : Int32)), (.ref b21), (.int (0 : Int32)), (.int (2 : Int32))]) (rest := []) (W := 0) (q := 12)) (n_comp5_2_2 l Z a0 hw hEL a1 b21 kc k21 c0 c1 h21 n0 (PA.ext E21) V21 (by omega) (by omega) hl0 hl1) (hw _ (List.mem_of_getElem? (i := 80) rfl)) (hw _ (List.mem_of_getElem? (i := 76) rfl)) (by decide) (by decide) (by decide) (by decide) ?_
  intro v22 h22 hz22 hQ22
  obtain ⟨rfl, K22, V22⟩ := hQ22
  have z22 := K22.1
  refine gs (mkF m 14 #[.val (.ref a1), .val (.int (0 : Int32)), .val (.int (2 : Int32)), .val (.ref b21), .val (.int (2 : Int32)), .unset] []) (fun T A t k => XS.istore A B.x rfl (B.d d16_12) rfl (l' := #[.val (.ref a1), .val (.int (0 : Int32)), .val (.int (2 : Int32)), .val (.ref b21), .val (.int (2 : Int32)), .unset]) rfl k) ?_
  refine gs (mkF m 16 _ [(.int (2 : Int32))]) (fun T A t k => XS.iload A B.x rfl (B.d d16_14) rfl k) ?_
  refine gs (mkF m 17 _ [(.int (2 : Int32)), (.int (2 : Int32))]) (fun T A t k => XS.iloadN A B.x rfl (B.d d16_16) rfl k) ?_
  refine gs (mkF m 57 _ []) (fun T A t k => XS.icmpYes A B.x rfl (pc0 := 17) (pc' := 57) rfl (B.d d16_17) rfl (teq (by decide : (2 : Int32) = (2 : Int32))).1 (by decide) (by decide) k) ?_
  refine gs (mkF m 58 _ [(.ref b21)]) (fun T A t k => XS.aloadN A B.x rfl (B.d d16_57) rfl rfl k) ?_
  exact g_retA B rfl rfl d16_58 (by decide) (by decide) ⟨_, _, rfl, (((Keep.refl h0 []).ext E21).trans K22 (allS (Or.inr (by omega)) all0)), (by omega), V22⟩
set_option maxRecDepth 65536 in
set_option maxHeartbeats 40000000 in
theorem n_cfl_2_2 (l : Launch) (Z : State) (a0 : Array Value) (hw : ∀ d ∈ tables_1, d.before a0 Z = true) (hEL : EW Z a0 []) (a1 : Addr) (kb : ClassId) (c0 c1 : Int32) (h0 : Heap) (n0 : Nat) (PA : Arv Z h0 a1 kb .byte (2 : Int32) [(.int (StrChars.lo8 c0)), (.int (StrChars.lo8 c1))] (.int (0 : Int32))) :
    Met false Z [] l (⟨"java/lang/StringUTF16", "coderFromArrayLen", "([BI)B"⟩ : MethodName) jdk_52_method_15_code 2 (some .byte) ({ frames := 0, cells := 0, slots := 0, locals := 0 } : Room) #[(.ref a1), (.int (2 : Int32))] h0 [] n0 (fun v h => v = some (.int (0 : Int32)) ∧ h0 = h) := by
  refine Met.of (a0 := a0) (Ls := #[.val (.ref a1), .val (.int (2 : Int32))]) (fun z => rfl) (plainFor_of_name pn_java_lang_StringUTF16) hEL (fun m => by first | (simp [entryFrame, mkF, argsToLocals, Value.category]; done) | rfl) ?_
  intro p e s m below meth c B hSf
  refine gs (mkF m 1 _ [(.int (2 : Int32))]) (fun T A t k => XS.iloadN A B.x rfl (B.d d18_0) rfl k) ?_
  refine gs (mkF m 2 _ [(.ref a1), (.int (2 : Int32))]) (fun T A t k => XS.aloadN A B.x rfl (B.d d18_1) rfl rfl k) ?_
  refine g_len B PA d18_2 (q := 3) rfl ?_
  refine gs (mkF m 4 _ [(.int (0 : Int32))]) (fun T A t k => XS.isub A B.x rfl (B.d d18_3) rfl k) ?_
  refine gs (mkF m 6 _ [(.int (31 : Int32)), (.int (0 : Int32))]) (fun T A t k => XS.bipush A B.x rfl (B.d d18_4) k) ?_
  refine gs (mkF m 7 _ [(.int (0 : Int32))]) (fun T A t k => XS.iushr A B.x rfl (B.d d18_6) rfl k) ?_
  refine gs (mkF m 8 _ [(.int (0 : Int32))]) (fun T A t k => XS.i2b A B.x rfl (B.d d18_7) rfl k) ?_
  exact g_retN (t := .byte) B (by simp) d18_8 (by decide) (by decide) ⟨rfl, rfl⟩
set_option maxRecDepth 65536 in
set_option maxHeartbeats 40000000 in
theorem n_init4_2 (l : Launch) (Z : State) (a0 : Array Value) (hw : ∀ d ∈ tables_1, d.before a0 Z = true) (hEL : EW Z a0 []) (a1 : Addr) (a2 : Addr) (zc : Int32) (rv : Value) (kc : ClassId) (c0 c1 : Int32) (h0 : Heap) (n0 : Nat) (PE : Exa Z h0 a1 "java/lang/String") (PV : Fld Z h0 a1 "java/lang/String" "value" "[B" .null) (PC : Fld Z h0 a1 "java/lang/String" "coder" "B" (.int (0 : Int32))) (PA : Arv Z h0 a2 kc .char (2 : Int32) [(.int c0), (.int c1)] (.int (0 : Int32))) (hn : @LE.le Nat _ n0 h0.size) (hd : @LE.le Nat _ n0 a1) (ha : @LT.lt Nat _ a2 h0.size) (hr0 : rng c0) (hr1 : rng c1) (PX : Sts Z zc rv) (PO : Old Z n0 h0) :
    Met false Z [] l (⟨"java/lang/String", "<init>", "([CIILjava/lang/Void;)V"⟩ : MethodName) jdk_42_method_149_code 6 none ({ frames := 4, cells := 2, slots := 6, locals := 57 } : Room) #[(.ref a1), (.ref a2), (.int (0 : Int32)), (.int (2 : Int32)), .null] h0 [] n0 (fun v h => v = none ∧ Keep h0 h [a1] ∧ ∃ t : Addr, @LE.le Nat _ h0.size t ∧ Str Z h a1 t [c0, c1]) := by
  refine Met.of (a0 := a0) (Ls := #[.val (.ref a1), .val (.ref a2), .val (.int (0 : Int32)), .val (.int (2 : Int32)), .val .null, .unset]) (fun z => rfl) (plainFor_of_name pn_java_lang_String) hEL (fun m => by first | (simp [entryFrame, mkF, argsToLocals, Value.category]; done) | rfl) ?_
  intro p e s m below meth c B hSf
  obtain ⟨SC, hzc, SA, SH, SL, SF, rf⟩ := id PX
  have hlt1 : @LT.lt Nat _ a1 h0.size := PE.lt
  refine gs (mkF m 1 _ [(.ref a1)]) (fun T A t k => XS.aloadN A B.x rfl (B.d d3_0) rfl rfl k) ?_
  refine g_initO B (hw _ (List.mem_of_getElem? (i := 16) rfl)) (hw _ (List.mem_of_getElem? (i := 17) rfl)) (hw _ (List.mem_of_getElem? (i := 18) rfl)) rfl d3_1 (by decide) (W := 0) (Nat.le_of_eq rfl) (by decide) (q := 4) rfl ?_
  refine gs (mkF m 5 _ [(.int (2 : Int32))]) (fun T A t k => XS.iloadN A B.x rfl (B.d d3_4) rfl k) ?_
  refine gs (mkF m 27 _ []) (fun T A t k => XS.ifYes A B.x rfl (pc0 := 5) (pc' := 27) rfl (B.d d3_5) rfl ((if0 _ _).trans (feq (by decide : ¬ ((2 : Int32) = (0 : Int32)))).2) (by decide) (by decide) k) ?_
  refine g_getS B (hw _ (List.mem_of_getElem? (i := 46) rfl)) (SC.ext PO.2) d3_27 (q := 30) rfl ?_
  refine gs (mkF m 33 _ []) (fun T A t k => XS.ifNo A B.x rfl (B.d d3_30) rfl ((if0 _ _).trans (feq (hzc : ¬ (zc = (0 : Int32)))).1) k) ?_
  refine gs (mkF m 34 _ [(.ref a2)]) (fun T A t k => XS.aloadN A B.x rfl (B.d d3_33) rfl rfl k) ?_
  refine gs (mkF m 35 _ [(.int (0 : Int32)), (.ref a2)]) (fun T A t k => XS.iloadN A B.x rfl (B.d d3_34) rfl k) ?_
  refine gs (mkF m 36 _ [(.int (2 : Int32)), (.int (0 : Int32)), (.ref a2)]) (fun T A t k => XS.iloadN A B.x rfl (B.d d3_35) rfl k) ?_
  by_cases hl0 : (255 : Int32) < c0
  · have hg := hl0
    refine g_metN (c_static B (hw _ (List.mem_of_getElem? (i := 74) rfl)) (hw _ (List.mem_of_getElem? (i := 75) rfl)) (hw _ (List.mem_of_getElem? (i := 76) rfl)) (hw _ (List.mem_of_getElem? (i := 77) rfl)) (by decide) rfl (lenOf pd_285bCII295bB rfl) rfl (Nat.le_of_eq rfl) d3_36 rfl (argsL := [(.ref a2), (.int (0 : Int32)), (.int (2 : Int32))]) (rest := []) (W := 0) (q := 39)) (n_comp3_2_0 l Z a0 hw hEL a2 zc rv kc c0 c1 h0 n0 PA (by omega) (by omega) hr0 hr1  hg PX PO) (hw _ (List.mem_of_getElem? (i := 77) rfl)) (hw _ (List.mem_of_getElem? (i := 76) rfl)) (by decide) (by decide) (by decide) (by decide) ?_
    intro v21 h21 hz21 hQ21
    obtain ⟨x21, k21, rfl, K21, g21, V21⟩ := hQ21
    have z21 := K21.1; have y21 : @LT.lt Nat _ x21 h21.size := V21.lt
    refine gs (mkF m 41 #[.val (.ref a1), .val (.ref a2), .val (.int (0 : Int32)), .val (.int (2 : Int32)), .val .null, .val (.ref x21)] []) (fun T A t k => XS.astore A B.x rfl (B.d d3_39) rfl rfl (l' := #[.val (.ref a1), .val (.ref a2), .val (.int (0 : Int32)), .val (.int (2 : Int32)), .val .null, .val (.ref x21)]) rfl k) ?_
    refine gs (mkF m 42 _ [(.ref a1)]) (fun T A t k => XS.aloadN A B.x rfl (B.d d3_41) rfl rfl k) ?_
    refine gs (mkF m 44 _ [(.ref x21), (.ref a1)]) (fun T A t k => XS.aload A B.x rfl (B.d d3_42) rfl rfl k) ?_
    refine gs (mkF m 45 _ [(.int (2 : Int32)), (.ref x21), (.ref a1)]) (fun T A t k => XS.iloadN A B.x rfl (B.d d3_44) rfl k) ?_
    refine g_metN (c_static B (hw _ (List.mem_of_getElem? (i := 81) rfl)) (hw _ (List.mem_of_getElem? (i := 82) rfl)) (hw _ (List.mem_of_getElem? (i := 76) rfl)) (hw _ (List.mem_of_getElem? (i := 83) rfl)) (by decide) rfl (lenOf pd_285bBI29B rfl) rfl (Nat.le_of_eq rfl) d3_45 rfl (argsL := [(.ref x21), (.int (2 : Int32))]) (rest := [(.ref a1)]) (W := 1) (q := 48)) (n_cfl_2_4 l Z a0 hw hEL x21 k21 c0 c1 h21 n0 V21) (hw _ (List.mem_of_getElem? (i := 83) rfl)) (hw _ (List.mem_of_getElem? (i := 76) rfl)) (by decide) (by decide) (by decide) (by decide) ?_
    intro v22 h22 hz22 hQ22
    obtain ⟨rfl, rfl⟩ := hQ22
    refine g_putFN B (hw _ (List.mem_of_getElem? (i := 26) rfl)) Via.refl (PC.keep K21 nin0) (PE.keep K21) (Or.inr ⟨(hw _ (List.mem_of_getElem? (i := 22) rfl)), rfl, rfl⟩) (hw _ (List.mem_of_getElem? (i := 6) rfl)) (ty := .byte) (v' := (.int (1 : Int32))) (by decide) rfl rfl d3_48 nos (by omega) (q := 51) rfl ?_
    intro h23 W23 F23
    have z23 := W23.size
    refine gs (mkF m 52 _ [(.ref a1)]) (fun T A t k => XS.aloadN A B.x rfl (B.d d3_51) rfl rfl k) ?_
    refine gs (mkF m 54 _ [(.ref x21), (.ref a1)]) (fun T A t k => XS.aload A B.x rfl (B.d d3_52) rfl rfl k) ?_
    refine g_putF B (hw _ (List.mem_of_getElem? (i := 25) rfl)) Via.refl ((PV.keep K21 nin0).other W23 (Or.inr (slot_ne (Or.inr (hw _ (List.mem_of_getElem? (i := 21) rfl))) (Or.inr (hw _ (List.mem_of_getElem? (i := 22) rfl))) (by decide) (t := (.array .byte)) (t' := .byte) (by decide) (by decide)))) ((PE.keep K21).wr W23) (Or.inr ⟨(hw _ (List.mem_of_getElem? (i := 21) rfl)), rfl, rfl⟩) (hw _ (List.mem_of_getElem? (i := 6) rfl)) (ty := (.array .byte)) (by decide) rfl rfl d3_54 nos (by omega) (q := 57) rfl ?_
    intro h24 W24 F24
    have z24 := W24.size
    exact g_ret0 B d3_57 (by decide) (by decide) ⟨rfl, ((((Keep.refl h0 [a1]).trans K21 all0).wr W23 (Or.inl (by simp))).wr W24 (Or.inl (by simp))), _, (by omega), (Str.wide (((PE.keep K21).wr W23).wr W24) F24 (F23.other W24 (Or.inr (slot_ne (Or.inr (hw _ (List.mem_of_getElem? (i := 22) rfl))) (Or.inr (hw _ (List.mem_of_getElem? (i := 21) rfl))) (by decide) (t := .byte) (t' := (.array .byte)) (by decide) (by decide)))) ((V21.other W23 (by omega : @Ne Nat x21 a1)).other W24 (by omega : @Ne Nat x21 a1)) rfl rfl ⟨c0, by simp, hg⟩ (by simp only [List.mem_cons, List.not_mem_nil, or_false]; rintro c hc; rcases hc with rfl | rfl <;> assumption) (by simp))⟩
  · by_cases hl1 : (255 : Int32) < c1
    · have hg := hl1
      refine g_metN (c_static B (hw _ (List.mem_of_getElem? (i := 74) rfl)) (hw _ (List.mem_of_getElem? (i := 75) rfl)) (hw _ (List.mem_of_getElem? (i := 76) rfl)) (hw _ (List.mem_of_getElem? (i := 77) rfl)) (by decide) rfl (lenOf pd_285bCII295bB rfl) rfl (Nat.le_of_eq rfl) d3_36 rfl (argsL := [(.ref a2), (.int (0 : Int32)), (.int (2 : Int32))]) (rest := []) (W := 0) (q := 39)) (n_comp3_2_1 l Z a0 hw hEL a2 zc rv kc c0 c1 h0 n0 PA (by omega) (by omega) hr0 hr1 hl0 hg PX PO) (hw _ (List.mem_of_getElem? (i := 77) rfl)) (hw _ (List.mem_of_getElem? (i := 76) rfl)) (by decide) (by decide) (by decide) (by decide) ?_
      intro v25 h25 hz25 hQ25
      obtain ⟨x25, k25, rfl, K25, g25, V25⟩ := hQ25
      have z25 := K25.1; have y25 : @LT.lt Nat _ x25 h25.size := V25.lt
      refine gs (mkF m 41 #[.val (.ref a1), .val (.ref a2), .val (.int (0 : Int32)), .val (.int (2 : Int32)), .val .null, .val (.ref x25)] []) (fun T A t k => XS.astore A B.x rfl (B.d d3_39) rfl rfl (l' := #[.val (.ref a1), .val (.ref a2), .val (.int (0 : Int32)), .val (.int (2 : Int32)), .val .null, .val (.ref x25)]) rfl k) ?_
      refine gs (mkF m 42 _ [(.ref a1)]) (fun T A t k => XS.aloadN A B.x rfl (B.d d3_41) rfl rfl k) ?_
      refine gs (mkF m 44 _ [(.ref x25), (.ref a1)]) (fun T A t k => XS.aload A B.x rfl (B.d d3_42) rfl rfl k) ?_
      refine gs (mkF m 45 _ [(.int (2 : Int32)), (.ref x25), (.ref a1)]) (fun T A t k => XS.iloadN A B.x rfl (B.d d3_44) rfl k) ?_
      refine g_metN (c_static B (hw _ (List.mem_of_getElem? (i := 81) rfl)) (hw _ (List.mem_of_getElem? (i := 82) rfl)) (hw _ (List.mem_of_getElem? (i := 76) rfl)) (hw _ (List.mem_of_getElem? (i := 83) rfl)) (by decide) rfl (lenOf pd_285bBI29B rfl) rfl (Nat.le_of_eq rfl) d3_45 rfl (argsL := [(.ref x25), (.int (2 : Int32))]) (rest := [(.ref a1)]) (W := 1) (q := 48)) (n_cfl_2_4 l Z a0 hw hEL x25 k25 c0 c1 h25 n0 V25) (hw _ (List.mem_of_getElem? (i := 83) rfl)) (hw _ (List.mem_of_getElem? (i := 76) rfl)) (by decide) (by decide) (by decide) (by decide) ?_
      intro v26 h26 hz26 hQ26
      obtain ⟨rfl, rfl⟩ := hQ26
      refine g_putFN B (hw _ (List.mem_of_getElem? (i := 26) rfl)) Via.refl (PC.keep K25 nin0) (PE.keep K25) (Or.inr ⟨(hw _ (List.mem_of_getElem? (i := 22) rfl)), rfl, rfl⟩) (hw _ (List.mem_of_getElem? (i := 6) rfl)) (ty := .byte) (v' := (.int (1 : Int32))) (by decide) rfl rfl d3_48 nos (by omega) (q := 51) rfl ?_
      intro h27 W27 F27
      have z27 := W27.size
      refine gs (mkF m 52 _ [(.ref a1)]) (fun T A t k => XS.aloadN A B.x rfl (B.d d3_51) rfl rfl k) ?_
      refine gs (mkF m 54 _ [(.ref x25), (.ref a1)]) (fun T A t k => XS.aload A B.x rfl (B.d d3_52) rfl rfl k) ?_
      refine g_putF B (hw _ (List.mem_of_getElem? (i := 25) rfl)) Via.refl ((PV.keep K25 nin0).other W27 (Or.inr (slot_ne (Or.inr (hw _ (List.mem_of_getElem? (i := 21) rfl))) (Or.inr (hw _ (List.mem_of_getElem? (i := 22) rfl))) (by decide) (t := (.array .byte)) (t' := .byte) (by decide) (by decide)))) ((PE.keep K25).wr W27) (Or.inr ⟨(hw _ (List.mem_of_getElem? (i := 21) rfl)), rfl, rfl⟩) (hw _ (List.mem_of_getElem? (i := 6) rfl)) (ty := (.array .byte)) (by decide) rfl rfl d3_54 nos (by omega) (q := 57) rfl ?_
      intro h28 W28 F28
      have z28 := W28.size
      exact g_ret0 B d3_57 (by decide) (by decide) ⟨rfl, ((((Keep.refl h0 [a1]).trans K25 all0).wr W27 (Or.inl (by simp))).wr W28 (Or.inl (by simp))), _, (by omega), (Str.wide (((PE.keep K25).wr W27).wr W28) F28 (F27.other W28 (Or.inr (slot_ne (Or.inr (hw _ (List.mem_of_getElem? (i := 22) rfl))) (Or.inr (hw _ (List.mem_of_getElem? (i := 21) rfl))) (by decide) (t := .byte) (t' := (.array .byte)) (by decide) (by decide)))) ((V25.other W27 (by omega : @Ne Nat x25 a1)).other W28 (by omega : @Ne Nat x25 a1)) rfl rfl ⟨c1, by simp, hg⟩ (by simp only [List.mem_cons, List.not_mem_nil, or_false]; rintro c hc; rcases hc with rfl | rfl <;> assumption) (by simp))⟩
    · refine g_metN (c_static B (hw _ (List.mem_of_getElem? (i := 74) rfl)) (hw _ (List.mem_of_getElem? (i := 75) rfl)) (hw _ (List.mem_of_getElem? (i := 76) rfl)) (hw _ (List.mem_of_getElem? (i := 77) rfl)) (by decide) rfl (lenOf pd_285bCII295bB rfl) rfl (Nat.le_of_eq rfl) d3_36 rfl (argsL := [(.ref a2), (.int (0 : Int32)), (.int (2 : Int32))]) (rest := []) (W := 0) (q := 39)) (n_comp3_2_2 l Z a0 hw hEL a2 zc rv kc c0 c1 h0 n0 PA (by omega) (by omega) hr0 hr1 hl0 hl1 PX PO) (hw _ (List.mem_of_getElem? (i := 77) rfl)) (hw _ (List.mem_of_getElem? (i := 76) rfl)) (by decide) (by decide) (by decide) (by decide) ?_
      intro v29 h29 hz29 hQ29
      obtain ⟨x29, k29, rfl, K29, g29, V29⟩ := hQ29
      have z29 := K29.1; have y29 : @LT.lt Nat _ x29 h29.size := V29.lt
      refine gs (mkF m 41 #[.val (.ref a1), .val (.ref a2), .val (.int (0 : Int32)), .val (.int (2 : Int32)), .val .null, .val (.ref x29)] []) (fun T A t k => XS.astore A B.x rfl (B.d d3_39) rfl rfl (l' := #[.val (.ref a1), .val (.ref a2), .val (.int (0 : Int32)), .val (.int (2 : Int32)), .val .null, .val (.ref x29)]) rfl k) ?_
      refine gs (mkF m 42 _ [(.ref a1)]) (fun T A t k => XS.aloadN A B.x rfl (B.d d3_41) rfl rfl k) ?_
      refine gs (mkF m 44 _ [(.ref x29), (.ref a1)]) (fun T A t k => XS.aload A B.x rfl (B.d d3_42) rfl rfl k) ?_
      refine gs (mkF m 45 _ [(.int (2 : Int32)), (.ref x29), (.ref a1)]) (fun T A t k => XS.iloadN A B.x rfl (B.d d3_44) rfl k) ?_
      refine g_metN (c_static B (hw _ (List.mem_of_getElem? (i := 81) rfl)) (hw _ (List.mem_of_getElem? (i := 82) rfl)) (hw _ (List.mem_of_getElem? (i := 76) rfl)) (hw _ (List.mem_of_getElem? (i := 83) rfl)) (by decide) rfl (lenOf pd_285bBI29B rfl) rfl (Nat.le_of_eq rfl) d3_45 rfl (argsL := [(.ref x29), (.int (2 : Int32))]) (rest := [(.ref a1)]) (W := 1) (q := 48)) (n_cfl_2_2 l Z a0 hw hEL x29 k29 c0 c1 h29 n0 V29) (hw _ (List.mem_of_getElem? (i := 83) rfl)) (hw _ (List.mem_of_getElem? (i := 76) rfl)) (by decide) (by decide) (by decide) (by decide) ?_
      intro v30 h30 hz30 hQ30
      obtain ⟨rfl, rfl⟩ := hQ30
      refine g_putFN B (hw _ (List.mem_of_getElem? (i := 26) rfl)) Via.refl (PC.keep K29 nin0) (PE.keep K29) (Or.inr ⟨(hw _ (List.mem_of_getElem? (i := 22) rfl)), rfl, rfl⟩) (hw _ (List.mem_of_getElem? (i := 6) rfl)) (ty := .byte) (v' := (.int (0 : Int32))) (by decide) rfl rfl d3_48 nos (by omega) (q := 51) rfl ?_
      intro h31 W31 F31
      have z31 := W31.size
      refine gs (mkF m 52 _ [(.ref a1)]) (fun T A t k => XS.aloadN A B.x rfl (B.d d3_51) rfl rfl k) ?_
      refine gs (mkF m 54 _ [(.ref x29), (.ref a1)]) (fun T A t k => XS.aload A B.x rfl (B.d d3_52) rfl rfl k) ?_
      refine g_putF B (hw _ (List.mem_of_getElem? (i := 25) rfl)) Via.refl ((PV.keep K29 nin0).other W31 (Or.inr (slot_ne (Or.inr (hw _ (List.mem_of_getElem? (i := 21) rfl))) (Or.inr (hw _ (List.mem_of_getElem? (i := 22) rfl))) (by decide) (t := (.array .byte)) (t' := .byte) (by decide) (by decide)))) ((PE.keep K29).wr W31) (Or.inr ⟨(hw _ (List.mem_of_getElem? (i := 21) rfl)), rfl, rfl⟩) (hw _ (List.mem_of_getElem? (i := 6) rfl)) (ty := (.array .byte)) (by decide) rfl rfl d3_54 nos (by omega) (q := 57) rfl ?_
      intro h32 W32 F32
      have z32 := W32.size
      exact g_ret0 B d3_57 (by decide) (by decide) ⟨rfl, ((((Keep.refl h0 [a1]).trans K29 all0).wr W31 (Or.inl (by simp))).wr W32 (Or.inl (by simp))), _, (by omega), (Str.mk0 (((PE.keep K29).wr W31).wr W32) F32 (F31.other W32 (Or.inr (slot_ne (Or.inr (hw _ (List.mem_of_getElem? (i := 22) rfl))) (Or.inr (hw _ (List.mem_of_getElem? (i := 21) rfl))) (by decide) (t := .byte) (t' := (.array .byte)) (by decide) (by decide)))) ((V29.other W31 (by omega : @Ne Nat x29 a1)).other W32 (by omega : @Ne Nat x29 a1)) rfl rfl (by simp only [List.mem_cons, List.not_mem_nil, or_false]; rintro c hc; rcases hc with rfl | rfl <;> exact ⟨(by assumption : rng _).1, by assumption⟩) (by simp))⟩
set_option maxRecDepth 65536 in
set_option maxHeartbeats 40000000 in
theorem n_init1_2 (l : Launch) (Z : State) (a0 : Array Value) (hw : ∀ d ∈ tables_1, d.before a0 Z = true) (hEL : EW Z a0 []) (a1 : Addr) (a2 : Addr) (zc : Int32) (rv : Value) (kc : ClassId) (c0 c1 : Int32) (h0 : Heap) (n0 : Nat) (PE : Exa Z h0 a1 "java/lang/String") (PV : Fld Z h0 a1 "java/lang/String" "value" "[B" .null) (PC : Fld Z h0 a1 "java/lang/String" "coder" "B" (.int (0 : Int32))) (PA : Arv Z h0 a2 kc .char (2 : Int32) [(.int c0), (.int c1)] (.int (0 : Int32))) (hn : @LE.le Nat _ n0 h0.size) (hd : @LE.le Nat _ n0 a1) (ha : @LT.lt Nat _ a2 h0.size) (hr0 : rng c0) (hr1 : rng c1) (PX : Sts Z zc rv) (PO : Old Z n0 h0) :
    Met false Z [] l (⟨"java/lang/String", "<init>", "([C)V"⟩ : MethodName) jdk_42_method_3_code 2 none ({ frames := 5, cells := 2, slots := 6, locals := 74 } : Room) #[(.ref a1), (.ref a2)] h0 [] n0 (fun v h => v = none ∧ Keep h0 h [a1] ∧ ∃ t : Addr, @LE.le Nat _ h0.size t ∧ Str Z h a1 t [c0, c1]) := by
  refine Met.of (a0 := a0) (Ls := #[.val (.ref a1), .val (.ref a2)]) (fun z => rfl) (plainFor_of_name pn_java_lang_String) hEL (fun m => by first | (simp [entryFrame, mkF, argsToLocals, Value.category]; done) | rfl) ?_
  intro p e s m below meth c B hSf
  obtain ⟨SC, hzc, SA, SH, SL, SF, rf⟩ := id PX
  have hlt1 : @LT.lt Nat _ a1 h0.size := PE.lt
  refine gs (mkF m 1 _ [(.ref a1)]) (fun T A t k => XS.aloadN A B.x rfl (B.d d2_0) rfl rfl k) ?_
  refine gs (mkF m 2 _ [(.ref a2), (.ref a1)]) (fun T A t k => XS.aloadN A B.x rfl (B.d d2_1) rfl rfl k) ?_
  refine gs (mkF m 3 _ [(.int (0 : Int32)), (.ref a2), (.ref a1)]) (fun T A t k => XS.iconst A B.x rfl (B.d d2_2) k) ?_
  refine gs (mkF m 4 _ [(.ref a2), (.int (0 : Int32)), (.ref a2), (.ref a1)]) (fun T A t k => XS.aloadN A B.x rfl (B.d d2_3) rfl rfl k) ?_
  refine g_len B PA d2_4 (q := 5) rfl ?_
  refine gs (mkF m 6 _ [.null, (.int (2 : Int32)), (.int (0 : Int32)), (.ref a2), (.ref a1)]) (fun T A t k => XS.aconstNull A B.x rfl (B.d d2_5) k) ?_
  refine g_metN (c_init B rfl (hw _ (List.mem_of_getElem? (i := 12) rfl)) (hw _ (List.mem_of_getElem? (i := 13) rfl)) (hw _ (List.mem_of_getElem? (i := 15) rfl)) (by decide) rfl (lenOf pd_285bCIILjava2flang2fVoid3b29V rfl) rfl (Nat.le_of_eq rfl) d2_6 rfl (argsL := [(.ref a2), (.int (0 : Int32)), (.int (2 : Int32)), .null]) (rest := []) (W := 0) (q := 9)) (n_init4_2 l Z a0 hw hEL a1 a2 zc rv kc c0 c1 h0 n0 PE PV PC PA (by omega) (by omega) (by omega) hr0 hr1 PX PO) (hw _ (List.mem_of_getElem? (i := 15) rfl)) (hw _ (List.mem_of_getElem? (i := 7) rfl)) (by decide) (by decide) (by decide) (by decide) ?_
  intro v21 h21 hz21 hQ21
  obtain ⟨rfl, K9, t9, g9, X9⟩ := hQ21
  exact g_ret0 B d2_9 (by decide) (by decide) ⟨rfl, K9, t9, g9, X9⟩
set_option maxRecDepth 65536 in
set_option maxHeartbeats 40000000 in
theorem n_length_2_0 (l : Launch) (Z : State) (a0 : Array Value) (hw : ∀ d ∈ tables_1, d.before a0 Z = true) (hEL : EW Z a0 []) (a1 : Addr) (zc : Int32) (rv : Value) (t : Addr) (kb : ClassId) (c0 c1 : Int32) (h0 : Heap) (n0 : Nat) (PE : Exa Z h0 a1 "java/lang/String") (PC : Fld Z h0 a1 "java/lang/String" "coder" "B" (.int (0 : Int32))) (PV : Fld Z h0 a1 "java/lang/String" "value" "[B" (.ref t)) (PA : Arv Z h0 t kb .byte (2 : Int32) [(.int (StrChars.lo8 c0)), (.int (StrChars.lo8 c1))] (.int (0 : Int32))) (PX : Sts Z zc rv) (PO : Old Z n0 h0) :
    Met false Z [] l (⟨"java/lang/String", "length", "()I"⟩ : MethodName) jdk_42_method_54_code 1 (some .int) ({ frames := 1, cells := 0, slots := 0, locals := 13 } : Room) #[(.ref a1)] h0 [] n0 (fun v h => v = some (.int (2 : Int32)) ∧ h0 = h) := by
  refine Met.of (a0 := a0) (Ls := #[.val (.ref a1)]) (fun z => rfl) (plainFor_of_name pn_java_lang_String) hEL (fun m => by first | (simp [entryFrame, mkF, argsToLocals, Value.category]; done) | rfl) ?_
  intro p e s m below meth c B hSf
  obtain ⟨SC, hzc, SA, SH, SL, SF, rf⟩ := id PX
  refine gs (mkF m 1 _ [(.ref a1)]) (fun T A t k => XS.aloadN A B.x rfl (B.d d9_0) rfl rfl k) ?_
  refine g_getF B (hw _ (List.mem_of_getElem? (i := 25) rfl)) Via.refl PV d9_1 (q := 4) rfl ?_
  refine g_len B PA d9_4 (q := 5) rfl ?_
  refine gs (mkF m 6 _ [(.ref a1), (.int (2 : Int32))]) (fun T A t k => XS.aloadN A B.x rfl (B.d d9_5) rfl rfl k) ?_
  refine g_metN (c_virt B PE (hw _ (List.mem_of_getElem? (i := 52) rfl)) (hw _ (List.mem_of_getElem? (i := 53) rfl)) (hw _ (List.mem_of_getElem? (i := 55) rfl)) (hw _ (List.mem_of_getElem? (i := 54) rfl)) (nfs (z := (⟨"java/lang/String", "coder", "()B"⟩ : MethodName)) (hw _ (List.mem_of_getElem? (i := 55) rfl))) (by decide) rfl (lenOf pd_2829B rfl) rfl (Nat.le_of_eq rfl) d9_6 rfl (argsL := []) (rest := [(.int (2 : Int32))]) (W := 1) (q := 9)) (n_coder_0 l Z a0 hw hEL a1 zc rv h0 n0 PE PC PX PO) (hw _ (List.mem_of_getElem? (i := 56) rfl)) (hw _ (List.mem_of_getElem? (i := 7) rfl)) (by decide) (by decide) (by decide) (by decide) ?_
  intro v21 h21 hz21 hQ21
  obtain ⟨rfl, rfl⟩ := hQ21
  refine gs (mkF m 10 _ [(.int (2 : Int32))]) (fun T A t k => XS.ishr A B.x rfl (B.d d9_9) rfl k) ?_
  exact g_retI B d9_10 (by decide) (by decide) ⟨rfl, rfl⟩
set_option maxRecDepth 65536 in
set_option maxHeartbeats 40000000 in
theorem n_min_2_2 (l : Launch) (Z : State) (a0 : Array Value) (hw : ∀ d ∈ tables_1, d.before a0 Z = true) (hEL : EW Z a0 [])   (h0 : Heap) (n0 : Nat)  :
    Met false Z [] l (⟨"java/lang/Math", "min", "(II)I"⟩ : MethodName) jdk_29_method_69_code 2 (some .int) ({ frames := 0, cells := 0, slots := 0, locals := 0 } : Room) #[(.int (2 : Int32)), (.int (2 : Int32))] h0 [] n0 (fun v h => v = some (.int (2 : Int32)) ∧ h0 = h) := by
  refine Met.of (a0 := a0) (Ls := #[.val (.int (2 : Int32)), .val (.int (2 : Int32))]) (fun z => rfl) (Jvm.Free.JP.mathPlain rfl (by decide +kernel)) hEL (fun m => by first | (simp [entryFrame, mkF, argsToLocals, Value.category]; done) | rfl) ?_
  intro p e s m below meth c B hSf
  refine gs (mkF m 1 _ [(.int (2 : Int32))]) (fun T A t k => XS.iloadN A B.x rfl (B.d d14_0) rfl k) ?_
  refine gs (mkF m 2 _ [(.int (2 : Int32)), (.int (2 : Int32))]) (fun T A t k => XS.iloadN A B.x rfl (B.d d14_1) rfl k) ?_
  refine gs (mkF m 5 _ []) (fun T A t k => XS.icmpNo A B.x rfl (B.d d14_2) rfl (flt (by decide : ¬ ((2 : Int32) < (2 : Int32)))).2.2.1 k) ?_
  refine gs (mkF m 6 _ [(.int (2 : Int32))]) (fun T A t k => XS.iloadN A B.x rfl (B.d d14_5) rfl k) ?_
  refine gs (mkF m 10 _ [(.int (2 : Int32))]) (fun T A t k => XS.goto A B.x rfl (pc0 := 6) (pc' := 10) rfl (B.d d14_6) (by decide) (by decide) k) ?_
  exact g_retI B d14_10 (by decide) (by decide) ⟨rfl, rfl⟩
set_option maxRecDepth 65536 in
set_option maxHeartbeats 40000000 in
theorem n_l_indexOfChar_46_2 (l : Launch) (Z : State) (a0 : Array Value) (hw : ∀ d ∈ tables_1, d.before a0 Z = true) (hEL : EW Z a0 []) (a1 : Addr) (zc : Int32) (rv : Value) (kb : ClassId) (c0 c1 : Int32) (h0 : Heap) (n0 : Nat) (PA : Arv Z h0 a1 kb .byte (2 : Int32) [(.int (StrChars.lo8 c0)), (.int (StrChars.lo8 c1))] (.int (0 : Int32))) (hr0 : rng c0) (hr1 : rng c1) (hl0 : ¬ (255 : Int32) < c0) (hl1 : ¬ (255 : Int32) < c1) (PX : Sts Z zc rv) (PO : Old Z n0 h0) :
    Met false Z [] l (⟨"java/lang/StringLatin1", "indexOfChar", "([BIII)I"⟩ : MethodName) jdk_43_method_23_code 6 (some .int) ({ frames := 0, cells := 0, slots := 0, locals := 0 } : Room) #[(.ref a1), (.int (46 : Int32)), (.int (0 : Int32)), (.int (2 : Int32))] h0 [] n0 (fun v h => v = some (.int (if c0 = (46 : Int32) then (0 : Int32) else (if c1 = (46 : Int32) then (1 : Int32) else (-1 : Int32)))) ∧ h0 = h) := by
  refine Met.of (a0 := a0) (Ls := #[.val (.ref a1), .val (.int (46 : Int32)), .val (.int (0 : Int32)), .val (.int (2 : Int32)), .unset, .unset]) (fun z => rfl) (plainFor_of_name pn_java_lang_StringLatin1) hEL (fun m => by first | (simp [entryFrame, mkF, argsToLocals, Value.category]; done) | rfl) ?_
  intro p e s m below meth c B hSf
  obtain ⟨SC, hzc, SA, SH, SL, SF, rf⟩ := id PX
  refine gs (mkF m 1 _ [(.int (46 : Int32))]) (fun T A t k => XS.iloadN A B.x rfl (B.d d20_0) rfl k) ?_
  refine gs (mkF m 2 _ [(.int (46 : Int32))]) (fun T A t k => XS.i2b A B.x rfl (B.d d20_1) rfl k) ?_
  refine gs (mkF m 4 #[.val (.ref a1), .val (.int (46 : Int32)), .val (.int (0 : Int32)), .val (.int (2 : Int32)), .val (.int (46 : Int32)), .unset] []) (fun T A t k => XS.istore A B.x rfl (B.d d20_2) rfl (l' := #[.val (.ref a1), .val (.int (46 : Int32)), .val (.int (0 : Int32)), .val (.int (2 : Int32)), .val (.int (46 : Int32)), .unset]) rfl k) ?_
  refine gs (mkF m 5 _ [(.int (0 : Int32))]) (fun T A t k => XS.iloadN A B.x rfl (B.d d20_4) rfl k) ?_
  refine gs (mkF m 7 #[.val (.ref a1), .val (.int (46 : Int32)), .val (.int (0 : Int32)), .val (.int (2 : Int32)), .val (.int (46 : Int32)), .val (.int (0 : Int32))] []) (fun T A t k => XS.istore A B.x rfl (B.d d20_5) rfl (l' := #[.val (.ref a1), .val (.int (46 : Int32)), .val (.int (0 : Int32)), .val (.int (2 : Int32)), .val (.int (46 : Int32)), .val (.int (0 : Int32))]) rfl k) ?_
  refine gs (mkF m 9 _ [(.int (0 : Int32))]) (fun T A t k => XS.iload A B.x rfl (B.d d20_7) rfl k) ?_
  refine gs (mkF m 10 _ [(.int (2 : Int32)), (.int (0 : Int32))]) (fun T A t k => XS.iloadN A B.x rfl (B.d d20_9) rfl k) ?_
  refine gs (mkF m 13 _ []) (fun T A t k => XS.icmpNo A B.x rfl (B.d d20_10) rfl (tlt (by decide : (0 : Int32) < (2 : Int32))).2.1 k) ?_
  refine gs (mkF m 14 _ [(.ref a1)]) (fun T A t k => XS.aloadN A B.x rfl (B.d d20_13) rfl rfl k) ?_
  refine gs (mkF m 16 _ [(.int (0 : Int32)), (.ref a1)]) (fun T A t k => XS.iload A B.x rfl (B.d d20_14) rfl k) ?_
  refine g_ldB B PA ⟨by decide, by decide⟩ (v := (.int (StrChars.lo8 c0))) rfl d20_16 (q := 17) rfl ?_
  refine gs (mkF m 19 _ [(.int (46 : Int32)), (.int (StrChars.lo8 c0))]) (fun T A t k => XS.iload A B.x rfl (B.d d20_17) rfl k) ?_
  by_cases hE0 : c0 = (46 : Int32)
  · refine gs (mkF m 22 _ []) (fun T A t k => XS.icmpNo A B.x rfl (B.d d20_19) rfl (teq ((by rw [hE0]; exact lo_46) : (StrChars.lo8 c0) = (46 : Int32))).2 k) ?_
    refine gs (mkF m 24 _ [(.int (0 : Int32))]) (fun T A t k => XS.iload A B.x rfl (B.d d20_22) rfl k) ?_
    exact g_retI B d20_24 (by decide) (by decide) ⟨by rw [if_pos hE0], rfl⟩
  · refine gs (mkF m 25 _ []) (fun T A t k => XS.icmpYes A B.x rfl (pc0 := 19) (pc' := 25) rfl (B.d d20_19) rfl (feq ((fun e => hE0 (lo_eq46 hr0.1 hl0 e)) : ¬ ((StrChars.lo8 c0) = (46 : Int32)))).2 (by decide) (by decide) k) ?_
    refine gs (mkF m 28 #[.val (.ref a1), .val (.int (46 : Int32)), .val (.int (0 : Int32)), .val (.int (2 : Int32)), .val (.int (46 : Int32)), .val (.int (1 : Int32))] []) (fun T A t k => XS.iinc A B.x rfl (B.d d20_25) rfl (l' := #[.val (.ref a1), .val (.int (46 : Int32)), .val (.int (0 : Int32)), .val (.int (2 : Int32)), .val (.int (46 : Int32)), .val (.int (1 : Int32))]) rfl k) ?_
    refine gs (mkF m 7 _ []) (fun T A t k => XS.goto A B.x rfl (pc0 := 28) (pc' := 7) rfl (B.d d20_28) (by decide) (by decide) k) ?_
    refine gs (mkF m 9 _ [(.int (1 : Int32))]) (fun T A t k => XS.iload A B.x rfl (B.d d20_7) rfl k) ?_
    refine gs (mkF m 10 _ [(.int (2 : Int32)), (.int (1 : Int32))]) (fun T A t k => XS.iloadN A B.x rfl (B.d d20_9) rfl k) ?_
    refine gs (mkF m 13 _ []) (fun T A t k => XS.icmpNo A B.x rfl (B.d d20_10) rfl (tlt (by decide : (1 : Int32) < (2 : Int32))).2.1 k) ?_
    refine gs (mkF m 14 _ [(.ref a1)]) (fun T A t k => XS.aloadN A B.x rfl (B.d d20_13) rfl rfl k) ?_
    refine gs (mkF m 16 _ [(.int (1 : Int32)), (.ref a1)]) (fun T A t k => XS.iload A B.x rfl (B.d d20_14) rfl k) ?_
    refine g_ldB B PA ⟨by decide, by decide⟩ (v := (.int (StrChars.lo8 c1))) rfl d20_16 (q := 17) rfl ?_
    refine gs (mkF m 19 _ [(.int (46 : Int32)), (.int (StrChars.lo8 c1))]) (fun T A t k => XS.iload A B.x rfl (B.d d20_17) rfl k) ?_
    by_cases hE1 : c1 = (46 : Int32)
    · refine gs (mkF m 22 _ []) (fun T A t k => XS.icmpNo A B.x rfl (B.d d20_19) rfl (teq ((by rw [hE1]; exact lo_46) : (StrChars.lo8 c1) = (46 : Int32))).2 k) ?_
      refine gs (mkF m 24 _ [(.int (1 : Int32))]) (fun T A t k => XS.iload A B.x rfl (B.d d20_22) rfl k) ?_
      exact g_retI B d20_24 (by decide) (by decide) ⟨by rw [if_neg hE0, if_pos hE1], rfl⟩
    · refine gs (mkF m 25 _ []) (fun T A t k => XS.icmpYes A B.x rfl (pc0 := 19) (pc' := 25) rfl (B.d d20_19) rfl (feq ((fun e => hE1 (lo_eq46 hr1.1 hl1 e)) : ¬ ((StrChars.lo8 c1) = (46 : Int32)))).2 (by decide) (by decide) k) ?_
      refine gs (mkF m 28 #[.val (.ref a1), .val (.int (46 : Int32)), .val (.int (0 : Int32)), .val (.int (2 : Int32)), .val (.int (46 : Int32)), .val (.int (2 : Int32))] []) (fun T A t k => XS.iinc A B.x rfl (B.d d20_25) rfl (l' := #[.val (.ref a1), .val (.int (46 : Int32)), .val (.int (0 : Int32)), .val (.int (2 : Int32)), .val (.int (46 : Int32)), .val (.int (2 : Int32))]) rfl k) ?_
      refine gs (mkF m 7 _ []) (fun T A t k => XS.goto A B.x rfl (pc0 := 28) (pc' := 7) rfl (B.d d20_28) (by decide) (by decide) k) ?_
      refine gs (mkF m 9 _ [(.int (2 : Int32))]) (fun T A t k => XS.iload A B.x rfl (B.d d20_7) rfl k) ?_
      refine gs (mkF m 10 _ [(.int (2 : Int32)), (.int (2 : Int32))]) (fun T A t k => XS.iloadN A B.x rfl (B.d d20_9) rfl k) ?_
      refine gs (mkF m 31 _ []) (fun T A t k => XS.icmpYes A B.x rfl (pc0 := 10) (pc' := 31) rfl (B.d d20_10) rfl (flt (by decide : ¬ ((2 : Int32) < (2 : Int32)))).2.1 (by decide) (by decide) k) ?_
      refine gs (mkF m 32 _ [(.int (-1 : Int32))]) (fun T A t k => XS.iconst A B.x rfl (B.d d20_31) k) ?_
      exact g_retI B d20_32 (by decide) (by decide) ⟨by rw [if_neg hE0, if_neg hE1], rfl⟩
set_option maxRecDepth 65536 in
set_option maxHeartbeats 40000000 in
theorem n_l_indexOf_46_2 (l : Launch) (Z : State) (a0 : Array Value) (hw : ∀ d ∈ tables_1, d.before a0 Z = true) (hEL : EW Z a0 []) (a1 : Addr) (zc : Int32) (rv : Value) (kb : ClassId) (c0 c1 : Int32) (h0 : Heap) (n0 : Nat) (PA : Arv Z h0 a1 kb .byte (2 : Int32) [(.int (StrChars.lo8 c0)), (.int (StrChars.lo8 c1))] (.int (0 : Int32))) (hr0 : rng c0) (hr1 : rng c1) (hl0 : ¬ (255 : Int32) < c0) (hl1 : ¬ (255 : Int32) < c1) (PX : Sts Z zc rv) (PO : Old Z n0 h0) :
    Met false Z [] l (⟨"java/lang/StringLatin1", "indexOf", "([BIII)I"⟩ : MethodName) jdk_43_method_22_code 4 (some .int) ({ frames := 1, cells := 0, slots := 0, locals := 17 } : Room) #[(.ref a1), (.int (46 : Int32)), (.int (0 : Int32)), (.int (2 : Int32))] h0 [] n0 (fun v h => v = some (.int (if c0 = (46 : Int32) then (0 : Int32) else (if c1 = (46 : Int32) then (1 : Int32) else (-1 : Int32)))) ∧ h0 = h) := by
  refine Met.of (a0 := a0) (Ls := #[.val (.ref a1), .val (.int (46 : Int32)), .val (.int (0 : Int32)), .val (.int (2 : Int32))]) (fun z => rfl) (plainFor_of_name pn_java_lang_StringLatin1) hEL (fun m => by first | (simp [entryFrame, mkF, argsToLocals, Value.category]; done) | rfl) ?_
  intro p e s m below meth c B hSf
  obtain ⟨SC, hzc, SA, SH, SL, SF, rf⟩ := id PX
  refine gs (mkF m 1 _ [(.int (46 : Int32))]) (fun T A t k => XS.iloadN A B.x rfl (B.d d11_0) rfl k) ?_
  refine g_metN (c_static B (hw _ (List.mem_of_getElem? (i := 61) rfl)) (hw _ (List.mem_of_getElem? (i := 62) rfl)) (hw _ (List.mem_of_getElem? (i := 59) rfl)) (hw _ (List.mem_of_getElem? (i := 63) rfl)) (by decide) rfl (lenOf pd_28I29Z rfl) rfl (Nat.le_of_eq rfl) d11_1 rfl (argsL := [(.int (46 : Int32))]) (rest := []) (W := 0) (q := 4)) (n_ce_46 l Z a0 hw hEL  h0 n0) (hw _ (List.mem_of_getElem? (i := 63) rfl)) (hw _ (List.mem_of_getElem? (i := 59) rfl)) (by decide) (by decide) (by decide) (by decide) ?_
  intro v21 h21 hz21 hQ21
  obtain ⟨rfl, rfl⟩ := hQ21
  refine gs (mkF m 9 _ []) (fun T A t k => XS.ifYes A B.x rfl (pc0 := 4) (pc' := 9) rfl (B.d d11_4) rfl ((if0 _ _).trans (feq (by decide : ¬ ((1 : Int32) = (0 : Int32)))).2) (by decide) (by decide) k) ?_
  refine gs (mkF m 10 _ [(.int (0 : Int32))]) (fun T A t k => XS.iloadN A B.x rfl (B.d d11_9) rfl k) ?_
  refine gs (mkF m 11 _ [(.int (0 : Int32)), (.int (0 : Int32))]) (fun T A t k => XS.iconst A B.x rfl (B.d d11_10) k) ?_
  refine g_metN (c_static B (hw _ (List.mem_of_getElem? (i := 64) rfl)) (hw _ (List.mem_of_getElem? (i := 65) rfl)) (hw _ (List.mem_of_getElem? (i := 66) rfl)) (hw _ (List.mem_of_getElem? (i := 67) rfl)) (by decide) rfl (lenOf pd_28II29I rfl) rfl (Nat.le_of_eq rfl) d11_11 rfl (argsL := [(.int (0 : Int32)), (.int (0 : Int32))]) (rest := []) (W := 0) (q := 14)) (n_max_0_0 l Z a0 hw hEL  h0 n0) (hw _ (List.mem_of_getElem? (i := 67) rfl)) (hw _ (List.mem_of_getElem? (i := 66) rfl)) (by decide) (by decide) (by decide) (by decide) ?_
  intro v22 h22 hz22 hQ22
  obtain ⟨rfl, rfl⟩ := hQ22
  refine gs (mkF m 15 #[.val (.ref a1), .val (.int (46 : Int32)), .val (.int (0 : Int32)), .val (.int (2 : Int32))] []) (fun T A t k => XS.istoreN A B.x rfl (B.d d11_14) rfl (l' := #[.val (.ref a1), .val (.int (46 : Int32)), .val (.int (0 : Int32)), .val (.int (2 : Int32))]) rfl k) ?_
  refine gs (mkF m 16 _ [(.int (2 : Int32))]) (fun T A t k => XS.iloadN A B.x rfl (B.d d11_15) rfl k) ?_
  refine gs (mkF m 17 _ [(.ref a1), (.int (2 : Int32))]) (fun T A t k => XS.aloadN A B.x rfl (B.d d11_16) rfl rfl k) ?_
  refine g_len B PA d11_17 (q := 18) rfl ?_
  refine g_metN (c_static B (hw _ (List.mem_of_getElem? (i := 68) rfl)) (hw _ (List.mem_of_getElem? (i := 69) rfl)) (hw _ (List.mem_of_getElem? (i := 66) rfl)) (hw _ (List.mem_of_getElem? (i := 70) rfl)) (by decide) rfl (lenOf pd_28II29I rfl) rfl (Nat.le_of_eq rfl) d11_18 rfl (argsL := [(.int (2 : Int32)), (.int (2 : Int32))]) (rest := []) (W := 0) (q := 21)) (n_min_2_2 l Z a0 hw hEL  h0 n0) (hw _ (List.mem_of_getElem? (i := 70) rfl)) (hw _ (List.mem_of_getElem? (i := 66) rfl)) (by decide) (by decide) (by decide) (by decide) ?_
  intro v23 h23 hz23 hQ23
  obtain ⟨rfl, rfl⟩ := hQ23
  refine gs (mkF m 22 #[.val (.ref a1), .val (.int (46 : Int32)), .val (.int (0 : Int32)), .val (.int (2 : Int32))] []) (fun T A t k => XS.istoreN A B.x rfl (B.d d11_21) rfl (l' := #[.val (.ref a1), .val (.int (46 : Int32)), .val (.int (0 : Int32)), .val (.int (2 : Int32))]) rfl k) ?_
  refine gs (mkF m 23 _ [(.int (0 : Int32))]) (fun T A t k => XS.iloadN A B.x rfl (B.d d11_22) rfl k) ?_
  refine gs (mkF m 24 _ [(.int (2 : Int32)), (.int (0 : Int32))]) (fun T A t k => XS.iloadN A B.x rfl (B.d d11_23) rfl k) ?_
  refine gs (mkF m 29 _ []) (fun T A t k => XS.icmpYes A B.x rfl (pc0 := 24) (pc' := 29) rfl (B.d d11_24) rfl (tlt (by decide : (0 : Int32) < (2 : Int32))).1 (by decide) (by decide) k) ?_
  refine gs (mkF m 30 _ [(.ref a1)]) (fun T A t k => XS.aloadN A B.x rfl (B.d d11_29) rfl rfl k) ?_
  refine gs (mkF m 31 _ [(.int (46 : Int32)), (.ref a1)]) (fun T A t k => XS.iloadN A B.x rfl (B.d d11_30) rfl k) ?_
  refine gs (mkF m 32 _ [(.int (0 : Int32)), (.int (46 : Int32)), (.ref a1)]) (fun T A t k => XS.iloadN A B.x rfl (B.d d11_31) rfl k) ?_
  refine gs (mkF m 33 _ [(.int (2 : Int32)), (.int (0 : Int32)), (.int (46 : Int32)), (.ref a1)]) (fun T A t k => XS.iloadN A B.x rfl (B.d d11_32) rfl k) ?_
  refine g_metN (c_static B (hw _ (List.mem_of_getElem? (i := 87) rfl)) (hw _ (List.mem_of_getElem? (i := 88) rfl)) (hw _ (List.mem_of_getElem? (i := 59) rfl)) (hw _ (List.mem_of_getElem? (i := 89) rfl)) (by decide) rfl (lenOf pd_285bBIII29I rfl) rfl (Nat.le_of_eq rfl) d11_33 rfl (argsL := [(.ref a1), (.int (46 : Int32)), (.int (0 : Int32)), (.int (2 : Int32))]) (rest := []) (W := 0) (q := 36)) (n_l_indexOfChar_46_2 l Z a0 hw hEL a1 zc rv kb c0 c1 h0 n0 PA hr0 hr1 hl0 hl1 PX PO) (hw _ (List.mem_of_getElem? (i := 89) rfl)) (hw _ (List.mem_of_getElem? (i := 59) rfl)) (by decide) (by decide) (by decide) (by decide) ?_
  intro v24 h24 hz24 hQ24
  obtain ⟨rfl, rfl⟩ := hQ24
  exact g_retI B d11_36 (by decide) (by decide) ⟨rfl, rfl⟩
set_option maxRecDepth 65536 in
set_option maxHeartbeats 40000000 in
theorem n_length_4_1 (l : Launch) (Z : State) (a0 : Array Value) (hw : ∀ d ∈ tables_1, d.before a0 Z = true) (hEL : EW Z a0 []) (a1 : Addr) (zc : Int32) (rv : Value) (t : Addr) (kb : ClassId) (c0 c1 : Int32) (h0 : Heap) (n0 : Nat) (PE : Exa Z h0 a1 "java/lang/String") (PC : Fld Z h0 a1 "java/lang/String" "coder" "B" (.int (1 : Int32))) (PV : Fld Z h0 a1 "java/lang/String" "value" "[B" (.ref t)) (PA : Arv Z h0 t kb .byte (4 : Int32) [(.int (StrChars.lo8 c0)), (.int (StrChars.hi8 c0)), (.int (StrChars.lo8 c1)), (.int (StrChars.hi8 c1))] (.int (0 : Int32))) (PX : Sts Z zc rv) (PO : Old Z n0 h0) :
    Met false Z [] l (⟨"java/lang/String", "length", "()I"⟩ : MethodName) jdk_42_method_54_code 1 (some .int) ({ frames := 1, cells := 0, slots := 0, locals := 13 } : Room) #[(.ref a1)] h0 [] n0 (fun v h => v = some (.int (2 : Int32)) ∧ h0 = h) := by
  refine Met.of (a0 := a0) (Ls := #[.val (.ref a1)]) (fun z => rfl) (plainFor_of_name pn_java_lang_String) hEL (fun m => by first | (simp [entryFrame, mkF, argsToLocals, Value.category]; done) | rfl) ?_
  intro p e s m below meth c B hSf
  obtain ⟨SC, hzc, SA, SH, SL, SF, rf⟩ := id PX
  refine gs (mkF m 1 _ [(.ref a1)]) (fun T A t k => XS.aloadN A B.x rfl (B.d d9_0) rfl rfl k) ?_
  refine g_getF B (hw _ (List.mem_of_getElem? (i := 25) rfl)) Via.refl PV d9_1 (q := 4) rfl ?_
  refine g_len B PA d9_4 (q := 5) rfl ?_
  refine gs (mkF m 6 _ [(.ref a1), (.int (4 : Int32))]) (fun T A t k => XS.aloadN A B.x rfl (B.d d9_5) rfl rfl k) ?_
  refine g_metN (c_virt B PE (hw _ (List.mem_of_getElem? (i := 52) rfl)) (hw _ (List.mem_of_getElem? (i := 53) rfl)) (hw _ (List.mem_of_getElem? (i := 55) rfl)) (hw _ (List.mem_of_getElem? (i := 54) rfl)) (nfs (z := (⟨"java/lang/String", "coder", "()B"⟩ : MethodName)) (hw _ (List.mem_of_getElem? (i := 55) rfl))) (by decide) rfl (lenOf pd_2829B rfl) rfl (Nat.le_of_eq rfl) d9_6 rfl (argsL := []) (rest := [(.int (4 : Int32))]) (W := 1) (q := 9)) (n_coder_1 l Z a0 hw hEL a1 zc rv h0 n0 PE PC PX PO) (hw _ (List.mem_of_getElem? (i := 56) rfl)) (hw _ (List.mem_of_getElem? (i := 7) rfl)) (by decide) (by decide) (by decide) (by decide) ?_
  intro v21 h21 hz21 hQ21
  obtain ⟨rfl, rfl⟩ := hQ21
  refine gs (mkF m 10 _ [(.int (2 : Int32))]) (fun T A t k => XS.ishr A B.x rfl (B.d d9_9) rfl k) ?_
  exact g_retI B d9_10 (by decide) (by decide) ⟨rfl, rfl⟩
set_option maxRecDepth 65536 in
set_option maxHeartbeats 40000000 in
theorem n_ulen_4 (l : Launch) (Z : State) (a0 : Array Value) (hw : ∀ d ∈ tables_1, d.before a0 Z = true) (hEL : EW Z a0 []) (a1 : Addr) (kb : ClassId) (c0 c1 : Int32) (h0 : Heap) (n0 : Nat) (PA : Arv Z h0 a1 kb .byte (4 : Int32) [(.int (StrChars.lo8 c0)), (.int (StrChars.hi8 c0)), (.int (StrChars.lo8 c1)), (.int (StrChars.hi8 c1))] (.int (0 : Int32))) :
    Met false Z [] l (⟨"java/lang/StringUTF16", "length", "([B)I"⟩ : MethodName) jdk_52_method_6_code 1 (some .int) ({ frames := 0, cells := 0, slots := 0, locals := 0 } : Room) #[(.ref a1)] h0 [] n0 (fun v h => v = some (.int (2 : Int32)) ∧ h0 = h) := by
  refine Met.of (a0 := a0) (Ls := #[.val (.ref a1)]) (fun z => rfl) (plainFor_of_name pn_java_lang_StringUTF16) hEL (fun m => by first | (simp [entryFrame, mkF, argsToLocals, Value.category]; done) | rfl) ?_
  intro p e s m below meth c B hSf
  refine gs (mkF m 1 _ [(.ref a1)]) (fun T A t k => XS.aloadN A B.x rfl (B.d d29_0) rfl rfl k) ?_
  refine g_len B PA d29_1 (q := 2) rfl ?_
  refine gs (mkF m 3 _ [(.int (1 : Int32)), (.int (4 : Int32))]) (fun T A t k => XS.iconst A B.x rfl (B.d d29_2) k) ?_
  refine gs (mkF m 4 _ [(.int (2 : Int32))]) (fun T A t k => XS.ishr A B.x rfl (B.d d29_3) rfl k) ?_
  exact g_retI B d29_4 (by decide) (by decide) ⟨rfl, rfl⟩
set_option maxRecDepth 65536 in
set_option maxHeartbeats 40000000 in
theorem n_cfi_2 (l : Launch) (Z : State) (a0 : Array Value) (hw : ∀ d ∈ tables_1, d.before a0 Z = true) (hEL : EW Z a0 [])  (rv : Value) (h0 : Heap) (n0 : Nat) (rf : rv.isRef = true) :
    Met false Z [] l (⟨"jdk/internal/util/Preconditions", "checkFromToIndex", "(IIILjava/util/function/BiFunction;)I"⟩ : MethodName) jdk_41_method_12_code 4 (some .int) ({ frames := 0, cells := 0, slots := 0, locals := 0 } : Room) #[(.int (0 : Int32)), (.int (2 : Int32)), (.int (2 : Int32)), rv] h0 [] n0 (fun v h => v = some (.int (0 : Int32)) ∧ h0 = h) := by
  refine Met.of (a0 := a0) (Ls := #[.val (.int (0 : Int32)), .val (.int (2 : Int32)), .val (.int (2 : Int32)), .val rv]) (fun z => rfl) (plainFor_of_name pn_jdk_internal_util_Preconditions) hEL (fun m => by first | (simp [entryFrame, mkF, argsToLocals, Value.category]; done) | rfl | (rcases ref_cases rf with rfl | ⟨a, rfl⟩ <;> first | rfl | (simp [entryFrame, mkF, argsToLocals, Value.category]; done))) ?_
  intro p e s m below meth c B hSf
  refine gs (mkF m 1 _ [(.int (0 : Int32))]) (fun T A t k => XS.iloadN A B.x rfl (B.d d31_0) rfl k) ?_
  refine gs (mkF m 4 _ []) (fun T A t k => XS.ifNo A B.x rfl (B.d d31_1) rfl ((if0 _ _).trans (flt (by decide : ¬ ((0 : Int32) < (0 : Int32)))).1) k) ?_
  refine gs (mkF m 5 _ [(.int (0 : Int32))]) (fun T A t k => XS.iloadN A B.x rfl (B.d d31_4) rfl k) ?_
  refine gs (mkF m 6 _ [(.int (2 : Int32)), (.int (0 : Int32))]) (fun T A t k => XS.iloadN A B.x rfl (B.d d31_5) rfl k) ?_
  refine gs (mkF m 9 _ []) (fun T A t k => XS.icmpNo A B.x rfl (B.d d31_6) rfl (flt (by decide : ¬ ((2 : Int32) < (0 : Int32)))).2.2.1 k) ?_
  refine gs (mkF m 10 _ [(.int (2 : Int32))]) (fun T A t k => XS.iloadN A B.x rfl (B.d d31_9) rfl k) ?_
  refine gs (mkF m 11 _ [(.int (2 : Int32)), (.int (2 : Int32))]) (fun T A t k => XS.iloadN A B.x rfl (B.d d31_10) rfl k) ?_
  refine gs (mkF m 22 _ []) (fun T A t k => XS.icmpYes A B.x rfl (pc0 := 11) (pc' := 22) rfl (B.d d31_11) rfl (flt (by decide : ¬ ((2 : Int32) < (2 : Int32)))).2.2.2 (by decide) (by decide) k) ?_
  refine gs (mkF m 23 _ [(.int (0 : Int32))]) (fun T A t k => XS.iloadN A B.x rfl (B.d d31_22) rfl k) ?_
  exact g_retI B d31_23 (by decide) (by decide) ⟨rfl, rfl⟩
set_option maxRecDepth 65536 in
set_option maxHeartbeats 40000000 in
theorem n_cb_2 (l : Launch) (Z : State) (a0 : Array Value) (hw : ∀ d ∈ tables_1, d.before a0 Z = true) (hEL : EW Z a0 [])  (zc : Int32) (rv : Value) (h0 : Heap) (n0 : Nat) (PX : Sts Z zc rv) (PO : Old Z n0 h0) :
    Met false Z [] l (⟨"java/lang/String", "checkBoundsBeginEnd", "(III)V"⟩ : MethodName) jdk_42_method_158_code 3 none ({ frames := 1, cells := 0, slots := 0, locals := 15 } : Room) #[(.int (0 : Int32)), (.int (2 : Int32)), (.int (2 : Int32))] h0 [] n0 (fun v h => v = none ∧ h0 = h) := by
  refine Met.of (a0 := a0) (Ls := #[.val (.int (0 : Int32)), .val (.int (2 : Int32)), .val (.int (2 : Int32))]) (fun z => rfl) (plainFor_of_name pn_java_lang_String) hEL (fun m => by first | (simp [entryFrame, mkF, argsToLocals, Value.category]; done) | rfl) ?_
  intro p e s m below meth c B hSf
  obtain ⟨SC, hzc, SA, SH, SL, SF, rf⟩ := id PX
  refine gs (mkF m 1 _ [(.int (0 : Int32))]) (fun T A t k => XS.iloadN A B.x rfl (B.d d30_0) rfl k) ?_
  refine gs (mkF m 2 _ [(.int (2 : Int32)), (.int (0 : Int32))]) (fun T A t k => XS.iloadN A B.x rfl (B.d d30_1) rfl k) ?_
  refine gs (mkF m 3 _ [(.int (2 : Int32)), (.int (2 : Int32)), (.int (0 : Int32))]) (fun T A t k => XS.iloadN A B.x rfl (B.d d30_2) rfl k) ?_
  refine g_getS B (hw _ (List.mem_of_getElem? (i := 127) rfl)) (SF.ext PO.2) d30_3 (q := 6) rfl ?_
  refine g_metN (c_static B (hw _ (List.mem_of_getElem? (i := 129) rfl)) (hw _ (List.mem_of_getElem? (i := 130) rfl)) (hw _ (List.mem_of_getElem? (i := 128) rfl)) (hw _ (List.mem_of_getElem? (i := 131) rfl)) (by decide) rfl (lenOf pd_28IIILjava2futil2ffunction2fBiFunction3b29I rfl) rfl (Nat.le_of_eq rfl) d30_6 rfl (argsL := [(.int (0 : Int32)), (.int (2 : Int32)), (.int (2 : Int32)), rv]) (rest := []) (W := 0) (q := 9)) (n_cfi_2 l Z a0 hw hEL (rv) h0 n0 rf) (hw _ (List.mem_of_getElem? (i := 131) rfl)) (hw _ (List.mem_of_getElem? (i := 128) rfl)) (by decide) (by decide) (by decide) (by decide) ?_
  intro v21 h21 hz21 hQ21
  obtain ⟨rfl, rfl⟩ := hQ21
  refine gs (mkF m 10 _ []) (fun T A t k => XS.pop A B.x rfl (B.d d30_9) rfl rfl k) ?_
  exact g_ret0 B d30_10 (by decide) (by decide) ⟨rfl, rfl⟩
set_option maxRecDepth 65536 in
set_option maxHeartbeats 40000000 in
theorem n_cu_4 (l : Launch) (Z : State) (a0 : Array Value) (hw : ∀ d ∈ tables_1, d.before a0 Z = true) (hEL : EW Z a0 []) (a1 : Addr) (zc : Int32) (rv : Value) (kb : ClassId) (c0 c1 : Int32) (h0 : Heap) (n0 : Nat) (PA : Arv Z h0 a1 kb .byte (4 : Int32) [(.int (StrChars.lo8 c0)), (.int (StrChars.hi8 c0)), (.int (StrChars.lo8 c1)), (.int (StrChars.hi8 c1))] (.int (0 : Int32))) (PX : Sts Z zc rv) (PO : Old Z n0 h0) :
    Met false Z [] l (⟨"java/lang/StringUTF16", "checkBoundsBeginEnd", "(II[B)V"⟩ : MethodName) jdk_52_method_93_code 3 none ({ frames := 2, cells := 0, slots := 0, locals := 29 } : Room) #[(.int (0 : Int32)), (.int (2 : Int32)), (.ref a1)] h0 [] n0 (fun v h => v = none ∧ h0 = h) := by
  refine Met.of (a0 := a0) (Ls := #[.val (.int (0 : Int32)), .val (.int (2 : Int32)), .val (.ref a1)]) (fun z => rfl) (plainFor_of_name pn_java_lang_StringUTF16) hEL (fun m => by first | (simp [entryFrame, mkF, argsToLocals, Value.category]; done) | rfl) ?_
  intro p e s m below meth c B hSf
  obtain ⟨SC, hzc, SA, SH, SL, SF, rf⟩ := id PX
  refine gs (mkF m 1 _ [(.int (0 : Int32))]) (fun T A t k => XS.iloadN A B.x rfl (B.d d28_0) rfl k) ?_
  refine gs (mkF m 2 _ [(.int (2 : Int32)), (.int (0 : Int32))]) (fun T A t k => XS.iloadN A B.x rfl (B.d d28_1) rfl k) ?_
  refine gs (mkF m 3 _ [(.ref a1), (.int (2 : Int32)), (.int (0 : Int32))]) (fun T A t k => XS.aloadN A B.x rfl (B.d d28_2) rfl rfl k) ?_
  refine g_metN (c_static B (hw _ (List.mem_of_getElem? (i := 121) rfl)) (hw _ (List.mem_of_getElem? (i := 122) rfl)) (hw _ (List.mem_of_getElem? (i := 76) rfl)) (hw _ (List.mem_of_getElem? (i := 123) rfl)) (by decide) rfl (lenOf pd_285bB29I rfl) rfl (Nat.le_of_eq rfl) d28_3 rfl (argsL := [(.ref a1)]) (rest := [(.int (2 : Int32)), (.int (0 : Int32))]) (W := 2) (q := 6)) (n_ulen_4 l Z a0 hw hEL a1 kb c0 c1 h0 n0 PA) (hw _ (List.mem_of_getElem? (i := 123) rfl)) (hw _ (List.mem_of_getElem? (i := 76) rfl)) (by decide) (by decide) (by decide) (by decide) ?_
  intro v21 h21 hz21 hQ21
  obtain ⟨rfl, rfl⟩ := hQ21
  refine g_metN (c_static B (hw _ (List.mem_of_getElem? (i := 124) rfl)) (hw _ (List.mem_of_getElem? (i := 125) rfl)) (hw _ (List.mem_of_getElem? (i := 7) rfl)) (hw _ (List.mem_of_getElem? (i := 126) rfl)) (by decide) rfl (lenOf pd_28III29V rfl) rfl (Nat.le_of_eq rfl) d28_6 rfl (argsL := [(.int (0 : Int32)), (.int (2 : Int32)), (.int (2 : Int32))]) (rest := []) (W := 0) (q := 9)) (n_cb_2 l Z a0 hw hEL  zc rv h0 n0 PX PO) (hw _ (List.mem_of_getElem? (i := 126) rfl)) (hw _ (List.mem_of_getElem? (i := 7) rfl)) (by decide) (by decide) (by decide) (by decide) ?_
  intro v22 h22 hz22 hQ22
  obtain ⟨rfl, rfl⟩ := hQ22
  exact g_ret0 B d28_9 (by decide) (by decide) ⟨rfl, rfl⟩
set_option maxRecDepth 65536 in
set_option maxHeartbeats 40000000 in
theorem n_u_indexOfCharUnsafe_46_2 (l : Launch) (Z : State) (a0 : Array Value) (hw : ∀ d ∈ tables_1, d.before a0 Z = true) (hEL : EW Z a0 []) (a1 : Addr) (zc : Int32) (rv : Value) (kb : ClassId) (c0 c1 : Int32) (h0 : Heap) (n0 : Nat) (PA : Arv Z h0 a1 kb .byte (4 : Int32) [(.int (StrChars.lo8 c0)), (.int (StrChars.hi8 c0)), (.int (StrChars.lo8 c1)), (.int (StrChars.hi8 c1))] (.int (0 : Int32))) (hr0 : rng c0) (hr1 : rng c1) (PX : Sts Z zc rv) (PO : Old Z n0 h0) :
    Met false Z [] l (⟨"java/lang/StringUTF16", "indexOfCharUnsafe", "([BIII)I"⟩ : MethodName) jdk_52_method_48_code 5 (some .int) ({ frames := 1, cells := 0, slots := 0, locals := 13 } : Room) #[(.ref a1), (.int (46 : Int32)), (.int (0 : Int32)), (.int (2 : Int32))] h0 [] n0 (fun v h => v = some (.int (if c0 = (46 : Int32) then (0 : Int32) else (if c1 = (46 : Int32) then (1 : Int32) else (-1 : Int32)))) ∧ h0 = h) := by
  refine Met.of (a0 := a0) (Ls := #[.val (.ref a1), .val (.int (46 : Int32)), .val (.int (0 : Int32)), .val (.int (2 : Int32)), .unset]) (fun z => rfl) (plainFor_of_name pn_java_lang_StringUTF16) hEL (fun m => by first | (simp [entryFrame, mkF, argsToLocals, Value.category]; done) | rfl) ?_
  intro p e s m below meth c B hSf
  obtain ⟨SC, hzc, SA, SH, SL, SF, rf⟩ := id PX
  refine gs (mkF m 1 _ [(.int (0 : Int32))]) (fun T A t k => XS.iloadN A B.x rfl (B.d d32_0) rfl k) ?_
  refine gs (mkF m 3 #[.val (.ref a1), .val (.int (46 : Int32)), .val (.int (0 : Int32)), .val (.int (2 : Int32)), .val (.int (0 : Int32))] []) (fun T A t k => XS.istore A B.x rfl (B.d d32_1) rfl (l' := #[.val (.ref a1), .val (.int (46 : Int32)), .val (.int (0 : Int32)), .val (.int (2 : Int32)), .val (.int (0 : Int32))]) rfl k) ?_
  refine gs (mkF m 5 _ [(.int (0 : Int32))]) (fun T A t k => XS.iload A B.x rfl (B.d d32_3) rfl k) ?_
  refine gs (mkF m 6 _ [(.int (2 : Int32)), (.int (0 : Int32))]) (fun T A t k => XS.iloadN A B.x rfl (B.d d32_5) rfl k) ?_
  refine gs (mkF m 9 _ []) (fun T A t k => XS.icmpNo A B.x rfl (B.d d32_6) rfl (tlt (by decide : (0 : Int32) < (2 : Int32))).2.1 k) ?_
  refine gs (mkF m 10 _ [(.ref a1)]) (fun T A t k => XS.aloadN A B.x rfl (B.d d32_9) rfl rfl k) ?_
  refine gs (mkF m 12 _ [(.int (0 : Int32)), (.ref a1)]) (fun T A t k => XS.iload A B.x rfl (B.d d32_10) rfl k) ?_
  refine g_metN (c_static B (hw _ (List.mem_of_getElem? (i := 106) rfl)) (hw _ (List.mem_of_getElem? (i := 107) rfl)) (hw _ (List.mem_of_getElem? (i := 76) rfl)) (hw _ (List.mem_of_getElem? (i := 108) rfl)) (by decide) rfl (lenOf pd_285bBI29C rfl) rfl (Nat.le_of_eq rfl) d32_12 rfl (argsL := [(.ref a1), (.int (0 : Int32))]) (rest := []) (W := 0) (q := 15)) (n_gc_4_0 l Z a0 hw hEL a1 zc rv kb c0 c1 h0 n0 PA hr0 PX PO) (hw _ (List.mem_of_getElem? (i := 108) rfl)) (hw _ (List.mem_of_getElem? (i := 76) rfl)) (by decide) (by decide) (by decide) (by decide) ?_
  intro v21 h21 hz21 hQ21
  obtain ⟨rfl, rfl⟩ := hQ21
  refine gs (mkF m 16 _ [(.int (46 : Int32)), (.int c0)]) (fun T A t k => XS.iloadN A B.x rfl (B.d d32_15) rfl k) ?_
  by_cases hE0 : c0 = (46 : Int32)
  · refine gs (mkF m 19 _ []) (fun T A t k => XS.icmpNo A B.x rfl (B.d d32_16) rfl (teq (hE0 : c0 = (46 : Int32))).2 k) ?_
    refine gs (mkF m 21 _ [(.int (0 : Int32))]) (fun T A t k => XS.iload A B.x rfl (B.d d32_19) rfl k) ?_
    exact g_retI B d32_21 (by decide) (by decide) ⟨by rw [if_pos hE0], rfl⟩
  · refine gs (mkF m 22 _ []) (fun T A t k => XS.icmpYes A B.x rfl (pc0 := 16) (pc' := 22) rfl (B.d d32_16) rfl (feq (hE0 : ¬ (c0 = (46 : Int32)))).2 (by decide) (by decide) k) ?_
    refine gs (mkF m 25 #[.val (.ref a1), .val (.int (46 : Int32)), .val (.int (0 : Int32)), .val (.int (2 : Int32)), .val (.int (1 : Int32))] []) (fun T A t k => XS.iinc A B.x rfl (B.d d32_22) rfl (l' := #[.val (.ref a1), .val (.int (46 : Int32)), .val (.int (0 : Int32)), .val (.int (2 : Int32)), .val (.int (1 : Int32))]) rfl k) ?_
    refine gs (mkF m 3 _ []) (fun T A t k => XS.goto A B.x rfl (pc0 := 25) (pc' := 3) rfl (B.d d32_25) (by decide) (by decide) k) ?_
    refine gs (mkF m 5 _ [(.int (1 : Int32))]) (fun T A t k => XS.iload A B.x rfl (B.d d32_3) rfl k) ?_
    refine gs (mkF m 6 _ [(.int (2 : Int32)), (.int (1 : Int32))]) (fun T A t k => XS.iloadN A B.x rfl (B.d d32_5) rfl k) ?_
    refine gs (mkF m 9 _ []) (fun T A t k => XS.icmpNo A B.x rfl (B.d d32_6) rfl (tlt (by decide : (1 : Int32) < (2 : Int32))).2.1 k) ?_
    refine gs (mkF m 10 _ [(.ref a1)]) (fun T A t k => XS.aloadN A B.x rfl (B.d d32_9) rfl rfl k) ?_
    refine gs (mkF m 12 _ [(.int (1 : Int32)), (.ref a1)]) (fun T A t k => XS.iload A B.x rfl (B.d d32_10) rfl k) ?_
    refine g_metN (c_static B (hw _ (List.mem_of_getElem? (i := 106) rfl)) (hw _ (List.mem_of_getElem? (i := 107) rfl)) (hw _ (List.mem_of_getElem? (i := 76) rfl)) (hw _ (List.mem_of_getElem? (i := 108) rfl)) (by decide) rfl (lenOf pd_285bBI29C rfl) rfl (Nat.le_of_eq rfl) d32_12 rfl (argsL := [(.ref a1), (.int (1 : Int32))]) (rest := []) (W := 0) (q := 15)) (n_gc_4_1 l Z a0 hw hEL a1 zc rv kb c0 c1 h0 n0 PA hr1 PX PO) (hw _ (List.mem_of_getElem? (i := 108) rfl)) (hw _ (List.mem_of_getElem? (i := 76) rfl)) (by decide) (by decide) (by decide) (by decide) ?_
    intro v22 h22 hz22 hQ22
    obtain ⟨rfl, rfl⟩ := hQ22
    refine gs (mkF m 16 _ [(.int (46 : Int32)), (.int c1)]) (fun T A t k => XS.iloadN A B.x rfl (B.d d32_15) rfl k) ?_
    by_cases hE1 : c1 = (46 : Int32)
    · refine gs (mkF m 19 _ []) (fun T A t k => XS.icmpNo A B.x rfl (B.d d32_16) rfl (teq (hE1 : c1 = (46 : Int32))).2 k) ?_
      refine gs (mkF m 21 _ [(.int (1 : Int32))]) (fun T A t k => XS.iload A B.x rfl (B.d d32_19) rfl k) ?_
      exact g_retI B d32_21 (by decide) (by decide) ⟨by rw [if_neg hE0, if_pos hE1], rfl⟩
    · refine gs (mkF m 22 _ []) (fun T A t k => XS.icmpYes A B.x rfl (pc0 := 16) (pc' := 22) rfl (B.d d32_16) rfl (feq (hE1 : ¬ (c1 = (46 : Int32)))).2 (by decide) (by decide) k) ?_
      refine gs (mkF m 25 #[.val (.ref a1), .val (.int (46 : Int32)), .val (.int (0 : Int32)), .val (.int (2 : Int32)), .val (.int (2 : Int32))] []) (fun T A t k => XS.iinc A B.x rfl (B.d d32_22) rfl (l' := #[.val (.ref a1), .val (.int (46 : Int32)), .val (.int (0 : Int32)), .val (.int (2 : Int32)), .val (.int (2 : Int32))]) rfl k) ?_
      refine gs (mkF m 3 _ []) (fun T A t k => XS.goto A B.x rfl (pc0 := 25) (pc' := 3) rfl (B.d d32_25) (by decide) (by decide) k) ?_
      refine gs (mkF m 5 _ [(.int (2 : Int32))]) (fun T A t k => XS.iload A B.x rfl (B.d d32_3) rfl k) ?_
      refine gs (mkF m 6 _ [(.int (2 : Int32)), (.int (2 : Int32))]) (fun T A t k => XS.iloadN A B.x rfl (B.d d32_5) rfl k) ?_
      refine gs (mkF m 28 _ []) (fun T A t k => XS.icmpYes A B.x rfl (pc0 := 6) (pc' := 28) rfl (B.d d32_6) rfl (flt (by decide : ¬ ((2 : Int32) < (2 : Int32)))).2.1 (by decide) (by decide) k) ?_
      refine gs (mkF m 29 _ [(.int (-1 : Int32))]) (fun T A t k => XS.iconst A B.x rfl (B.d d32_28) k) ?_
      exact g_retI B d32_29 (by decide) (by decide) ⟨by rw [if_neg hE0, if_neg hE1], rfl⟩
set_option maxRecDepth 65536 in
set_option maxHeartbeats 40000000 in
theorem n_u_indexOfChar_46_2 (l : Launch) (Z : State) (a0 : Array Value) (hw : ∀ d ∈ tables_1, d.before a0 Z = true) (hEL : EW Z a0 []) (a1 : Addr) (zc : Int32) (rv : Value) (kb : ClassId) (c0 c1 : Int32) (h0 : Heap) (n0 : Nat) (PA : Arv Z h0 a1 kb .byte (4 : Int32) [(.int (StrChars.lo8 c0)), (.int (StrChars.hi8 c0)), (.int (StrChars.lo8 c1)), (.int (StrChars.hi8 c1))] (.int (0 : Int32))) (hr0 : rng c0) (hr1 : rng c1) (PX : Sts Z zc rv) (PO : Old Z n0 h0) :
    Met false Z [] l (⟨"java/lang/StringUTF16", "indexOfChar", "([BIII)I"⟩ : MethodName) jdk_52_method_47_code 4 (some .int) ({ frames := 3, cells := 0, slots := 0, locals := 43 } : Room) #[(.ref a1), (.int (46 : Int32)), (.int (0 : Int32)), (.int (2 : Int32))] h0 [] n0 (fun v h => v = some (.int (if c0 = (46 : Int32) then (0 : Int32) else (if c1 = (46 : Int32) then (1 : Int32) else (-1 : Int32)))) ∧ h0 = h) := by
  refine Met.of (a0 := a0) (Ls := #[.val (.ref a1), .val (.int (46 : Int32)), .val (.int (0 : Int32)), .val (.int (2 : Int32))]) (fun z => rfl) (plainFor_of_name pn_java_lang_StringUTF16) hEL (fun m => by first | (simp [entryFrame, mkF, argsToLocals, Value.category]; done) | rfl) ?_
  intro p e s m below meth c B hSf
  obtain ⟨SC, hzc, SA, SH, SL, SF, rf⟩ := id PX
  refine gs (mkF m 1 _ [(.int (0 : Int32))]) (fun T A t k => XS.iloadN A B.x rfl (B.d d27_0) rfl k) ?_
  refine gs (mkF m 2 _ [(.int (2 : Int32)), (.int (0 : Int32))]) (fun T A t k => XS.iloadN A B.x rfl (B.d d27_1) rfl k) ?_
  refine gs (mkF m 3 _ [(.ref a1), (.int (2 : Int32)), (.int (0 : Int32))]) (fun T A t k => XS.aloadN A B.x rfl (B.d d27_2) rfl rfl k) ?_
  refine g_metN (c_static B (hw _ (List.mem_of_getElem? (i := 118) rfl)) (hw _ (List.mem_of_getElem? (i := 119) rfl)) (hw _ (List.mem_of_getElem? (i := 76) rfl)) (hw _ (List.mem_of_getElem? (i := 120) rfl)) (by decide) rfl (lenOf pd_28II5bB29V rfl) rfl (Nat.le_of_eq rfl) d27_3 rfl (argsL := [(.int (0 : Int32)), (.int (2 : Int32)), (.ref a1)]) (rest := []) (W := 0) (q := 6)) (n_cu_4 l Z a0 hw hEL a1 zc rv kb c0 c1 h0 n0 PA PX PO) (hw _ (List.mem_of_getElem? (i := 120) rfl)) (hw _ (List.mem_of_getElem? (i := 76) rfl)) (by decide) (by decide) (by decide) (by decide) ?_
  intro v21 h21 hz21 hQ21
  obtain ⟨rfl, rfl⟩ := hQ21
  refine gs (mkF m 7 _ [(.ref a1)]) (fun T A t k => XS.aloadN A B.x rfl (B.d d27_6) rfl rfl k) ?_
  refine gs (mkF m 8 _ [(.int (46 : Int32)), (.ref a1)]) (fun T A t k => XS.iloadN A B.x rfl (B.d d27_7) rfl k) ?_
  refine gs (mkF m 9 _ [(.int (0 : Int32)), (.int (46 : Int32)), (.ref a1)]) (fun T A t k => XS.iloadN A B.x rfl (B.d d27_8) rfl k) ?_
  refine gs (mkF m 10 _ [(.int (2 : Int32)), (.int (0 : Int32)), (.int (46 : Int32)), (.ref a1)]) (fun T A t k => XS.iloadN A B.x rfl (B.d d27_9) rfl k) ?_
  refine g_metN (c_static B (hw _ (List.mem_of_getElem? (i := 132) rfl)) (hw _ (List.mem_of_getElem? (i := 133) rfl)) (hw _ (List.mem_of_getElem? (i := 76) rfl)) (hw _ (List.mem_of_getElem? (i := 134) rfl)) (by decide) rfl (lenOf pd_285bBIII29I rfl) rfl (Nat.le_of_eq rfl) d27_10 rfl (argsL := [(.ref a1), (.int (46 : Int32)), (.int (0 : Int32)), (.int (2 : Int32))]) (rest := []) (W := 0) (q := 13)) (n_u_indexOfCharUnsafe_46_2 l Z a0 hw hEL a1 zc rv kb c0 c1 h0 n0 PA hr0 hr1 PX PO) (hw _ (List.mem_of_getElem? (i := 134) rfl)) (hw _ (List.mem_of_getElem? (i := 76) rfl)) (by decide) (by decide) (by decide) (by decide) ?_
  intro v22 h22 hz22 hQ22
  obtain ⟨rfl, rfl⟩ := hQ22
  exact g_retI B d27_13 (by decide) (by decide) ⟨rfl, rfl⟩
set_option maxRecDepth 65536 in
set_option maxHeartbeats 40000000 in
theorem n_u_indexOf_46_2 (l : Launch) (Z : State) (a0 : Array Value) (hw : ∀ d ∈ tables_1, d.before a0 Z = true) (hEL : EW Z a0 []) (a1 : Addr) (zc : Int32) (rv : Value) (kb : ClassId) (c0 c1 : Int32) (h0 : Heap) (n0 : Nat) (PA : Arv Z h0 a1 kb .byte (4 : Int32) [(.int (StrChars.lo8 c0)), (.int (StrChars.hi8 c0)), (.int (StrChars.lo8 c1)), (.int (StrChars.hi8 c1))] (.int (0 : Int32))) (hr0 : rng c0) (hr1 : rng c1) (PX : Sts Z zc rv) (PO : Old Z n0 h0) :
    Met false Z [] l (⟨"java/lang/StringUTF16", "indexOf", "([BIII)I"⟩ : MethodName) jdk_52_method_40_code 4 (some .int) ({ frames := 4, cells := 0, slots := 0, locals := 58 } : Room) #[(.ref a1), (.int (46 : Int32)), (.int (0 : Int32)), (.int (2 : Int32))] h0 [] n0 (fun v h => v = some (.int (if c0 = (46 : Int32) then (0 : Int32) else (if c1 = (46 : Int32) then (1 : Int32) else (-1 : Int32)))) ∧ h0 = h) := by
  refine Met.of (a0 := a0) (Ls := #[.val (.ref a1), .val (.int (46 : Int32)), .val (.int (0 : Int32)), .val (.int (2 : Int32))]) (fun z => rfl) (plainFor_of_name pn_java_lang_StringUTF16) hEL (fun m => by first | (simp [entryFrame, mkF, argsToLocals, Value.category]; done) | rfl) ?_
  intro p e s m below meth c B hSf
  obtain ⟨SC, hzc, SA, SH, SL, SF, rf⟩ := id PX
  refine gs (mkF m 1 _ [(.int (0 : Int32))]) (fun T A t k => XS.iloadN A B.x rfl (B.d d26_0) rfl k) ?_
  refine gs (mkF m 2 _ [(.int (0 : Int32)), (.int (0 : Int32))]) (fun T A t k => XS.iconst A B.x rfl (B.d d26_1) k) ?_
  refine g_metN (c_static B (hw _ (List.mem_of_getElem? (i := 112) rfl)) (hw _ (List.mem_of_getElem? (i := 65) rfl)) (hw _ (List.mem_of_getElem? (i := 66) rfl)) (hw _ (List.mem_of_getElem? (i := 67) rfl)) (by decide) rfl (lenOf pd_28II29I rfl) rfl (Nat.le_of_eq rfl) d26_2 rfl (argsL := [(.int (0 : Int32)), (.int (0 : Int32))]) (rest := []) (W := 0) (q := 5)) (n_max_0_0 l Z a0 hw hEL  h0 n0) (hw _ (List.mem_of_getElem? (i := 67) rfl)) (hw _ (List.mem_of_getElem? (i := 66) rfl)) (by decide) (by decide) (by decide) (by decide) ?_
  intro v21 h21 hz21 hQ21
  obtain ⟨rfl, rfl⟩ := hQ21
  refine gs (mkF m 6 #[.val (.ref a1), .val (.int (46 : Int32)), .val (.int (0 : Int32)), .val (.int (2 : Int32))] []) (fun T A t k => XS.istoreN A B.x rfl (B.d d26_5) rfl (l' := #[.val (.ref a1), .val (.int (46 : Int32)), .val (.int (0 : Int32)), .val (.int (2 : Int32))]) rfl k) ?_
  refine gs (mkF m 7 _ [(.int (2 : Int32))]) (fun T A t k => XS.iloadN A B.x rfl (B.d d26_6) rfl k) ?_
  refine gs (mkF m 8 _ [(.ref a1), (.int (2 : Int32))]) (fun T A t k => XS.aloadN A B.x rfl (B.d d26_7) rfl rfl k) ?_
  refine g_len B PA d26_8 (q := 9) rfl ?_
  refine gs (mkF m 10 _ [(.int (1 : Int32)), (.int (4 : Int32)), (.int (2 : Int32))]) (fun T A t k => XS.iconst A B.x rfl (B.d d26_9) k) ?_
  refine gs (mkF m 11 _ [(.int (2 : Int32)), (.int (2 : Int32))]) (fun T A t k => XS.ishr A B.x rfl (B.d d26_10) rfl k) ?_
  refine g_metN (c_static B (hw _ (List.mem_of_getElem? (i := 113) rfl)) (hw _ (List.mem_of_getElem? (i := 69) rfl)) (hw _ (List.mem_of_getElem? (i := 66) rfl)) (hw _ (List.mem_of_getElem? (i := 70) rfl)) (by decide) rfl (lenOf pd_28II29I rfl) rfl (Nat.le_of_eq rfl) d26_11 rfl (argsL := [(.int (2 : Int32)), (.int (2 : Int32))]) (rest := []) (W := 0) (q := 14)) (n_min_2_2 l Z a0 hw hEL  h0 n0) (hw _ (List.mem_of_getElem? (i := 70) rfl)) (hw _ (List.mem_of_getElem? (i := 66) rfl)) (by decide) (by decide) (by decide) (by decide) ?_
  intro v22 h22 hz22 hQ22
  obtain ⟨rfl, rfl⟩ := hQ22
  refine gs (mkF m 15 #[.val (.ref a1), .val (.int (46 : Int32)), .val (.int (0 : Int32)), .val (.int (2 : Int32))] []) (fun T A t k => XS.istoreN A B.x rfl (B.d d26_14) rfl (l' := #[.val (.ref a1), .val (.int (46 : Int32)), .val (.int (0 : Int32)), .val (.int (2 : Int32))]) rfl k) ?_
  refine gs (mkF m 16 _ [(.int (0 : Int32))]) (fun T A t k => XS.iloadN A B.x rfl (B.d d26_15) rfl k) ?_
  refine gs (mkF m 17 _ [(.int (2 : Int32)), (.int (0 : Int32))]) (fun T A t k => XS.iloadN A B.x rfl (B.d d26_16) rfl k) ?_
  refine gs (mkF m 22 _ []) (fun T A t k => XS.icmpYes A B.x rfl (pc0 := 17) (pc' := 22) rfl (B.d d26_17) rfl (tlt (by decide : (0 : Int32) < (2 : Int32))).1 (by decide) (by decide) k) ?_
  refine gs (mkF m 23 _ [(.int (46 : Int32))]) (fun T A t k => XS.iloadN A B.x rfl (B.d d26_22) rfl k) ?_
  refine g_ldcI B (hw _ (List.mem_of_getElem? (i := 114) rfl)) d26_23 (q := 25) rfl ?_
  refine gs (mkF m 28 _ []) (fun T A t k => XS.icmpNo A B.x rfl (B.d d26_25) rfl (tlt (by decide : (46 : Int32) < (65536 : Int32))).2.1 k) ?_
  refine gs (mkF m 29 _ [(.ref a1)]) (fun T A t k => XS.aloadN A B.x rfl (B.d d26_28) rfl rfl k) ?_
  refine gs (mkF m 30 _ [(.int (46 : Int32)), (.ref a1)]) (fun T A t k => XS.iloadN A B.x rfl (B.d d26_29) rfl k) ?_
  refine gs (mkF m 31 _ [(.int (0 : Int32)), (.int (46 : Int32)), (.ref a1)]) (fun T A t k => XS.iloadN A B.x rfl (B.d d26_30) rfl k) ?_
  refine gs (mkF m 32 _ [(.int (2 : Int32)), (.int (0 : Int32)), (.int (46 : Int32)), (.ref a1)]) (fun T A t k => XS.iloadN A B.x rfl (B.d d26_31) rfl k) ?_
  refine g_metN (c_static B (hw _ (List.mem_of_getElem? (i := 115) rfl)) (hw _ (List.mem_of_getElem? (i := 116) rfl)) (hw _ (List.mem_of_getElem? (i := 76) rfl)) (hw _ (List.mem_of_getElem? (i := 117) rfl)) (by decide) rfl (lenOf pd_285bBIII29I rfl) rfl (Nat.le_of_eq rfl) d26_32 rfl (argsL := [(.ref a1), (.int (46 : Int32)), (.int (0 : Int32)), (.int (2 : Int32))]) (rest := []) (W := 0) (q := 35)) (n_u_indexOfChar_46_2 l Z a0 hw hEL a1 zc rv kb c0 c1 h0 n0 PA hr0 hr1 PX PO) (hw _ (List.mem_of_getElem? (i := 117) rfl)) (hw _ (List.mem_of_getElem? (i := 76) rfl)) (by decide) (by decide) (by decide) (by decide) ?_
  intro v23 h23 hz23 hQ23
  obtain ⟨rfl, rfl⟩ := hQ23
  exact g_retI B d26_35 (by decide) (by decide) ⟨rfl, rfl⟩
set_option maxRecDepth 65536 in
set_option maxHeartbeats 40000000 in
theorem n_idx2_46_2 (l : Launch) (Z : State) (a0 : Array Value) (hw : ∀ d ∈ tables_1, d.before a0 Z = true) (hEL : EW Z a0 []) (a1 : Addr) (zc : Int32) (rv : Value) (t : Addr) (c0 c1 : Int32) (h0 : Heap) (n0 : Nat) (PS : Str Z h0 a1 t [c0, c1]) (PX : Sts Z zc rv) (PO : Old Z n0 h0) :
    Met false Z [] l (⟨"java/lang/String", "indexOf", "(II)I"⟩ : MethodName) jdk_42_method_80_code 3 (some .int) ({ frames := 5, cells := 0, slots := 0, locals := 73 } : Room) #[(.ref a1), (.int (46 : Int32)), (.int (0 : Int32))] h0 [] n0 (fun v h => v = some (.int (if c0 = (46 : Int32) then (0 : Int32) else (if c1 = (46 : Int32) then (1 : Int32) else (-1 : Int32)))) ∧ h0 = h) := by
  refine Met.of (a0 := a0) (Ls := #[.val (.ref a1), .val (.int (46 : Int32)), .val (.int (0 : Int32))]) (fun z => rfl) (plainFor_of_name pn_java_lang_String) hEL (fun m => by first | (simp [entryFrame, mkF, argsToLocals, Value.category]; done) | rfl) ?_
  intro p e s m below meth c B hSf
  obtain ⟨SC, hzc, SA, SH, SL, SF, rf⟩ := id PX
  obtain ⟨PE, PV, cd, N2, vs, kb, PC, PA0, hcod, hb, -⟩ := PS
  have hr0 : rng c0 := hb _ (by simp)
  have hr1 : rng c1 := hb _ (by simp)
  rcases hcod with ⟨rfl, rfl, rfl, hlat⟩ | ⟨rfl, rfl, rfl, hwd⟩
  · have PA : Arv Z h0 t kb .byte (2 : Int32) [(.int (StrChars.lo8 c0)), (.int (StrChars.lo8 c1))] (.int (0 : Int32)) := PA0
    have hl0 : ¬ (255 : Int32) < c0 := hlat _ (by simp)
    have hl1 : ¬ (255 : Int32) < c1 := hlat _ (by simp)
    refine gs (mkF m 1 _ [(.ref a1)]) (fun T A t k => XS.aloadN A B.x rfl (B.d d7_0) rfl rfl k) ?_
    refine g_metN (c_virt B PE (hw _ (List.mem_of_getElem? (i := 41) rfl)) (hw _ (List.mem_of_getElem? (i := 42) rfl)) (hw _ (List.mem_of_getElem? (i := 44) rfl)) (hw _ (List.mem_of_getElem? (i := 43) rfl)) (nfs (z := (⟨"java/lang/String", "isLatin1", "()Z"⟩ : MethodName)) (hw _ (List.mem_of_getElem? (i := 44) rfl))) (by decide) rfl (lenOf pd_2829Z rfl) rfl (Nat.le_of_eq rfl) d7_1 rfl (argsL := []) (rest := []) (W := 0) (q := 4)) (n_isLatin1_0 l Z a0 hw hEL a1 zc rv h0 n0 PE PC PX PO) (hw _ (List.mem_of_getElem? (i := 45) rfl)) (hw _ (List.mem_of_getElem? (i := 7) rfl)) (by decide) (by decide) (by decide) (by decide) ?_
    intro v21 h21 hz21 hQ21
    obtain ⟨rfl, rfl⟩ := hQ21
    refine gs (mkF m 7 _ []) (fun T A t k => XS.ifNo A B.x rfl (B.d d7_4) rfl ((if0 _ _).trans (feq (by decide : ¬ ((1 : Int32) = (0 : Int32)))).1) k) ?_
    refine gs (mkF m 8 _ [(.ref a1)]) (fun T A t k => XS.aloadN A B.x rfl (B.d d7_7) rfl rfl k) ?_
    refine g_getF B (hw _ (List.mem_of_getElem? (i := 25) rfl)) Via.refl PV d7_8 (q := 11) rfl ?_
    refine gs (mkF m 12 _ [(.int (46 : Int32)), (.ref t)]) (fun T A t k => XS.iloadN A B.x rfl (B.d d7_11) rfl k) ?_
    refine gs (mkF m 13 _ [(.int (0 : Int32)), (.int (46 : Int32)), (.ref t)]) (fun T A t k => XS.iloadN A B.x rfl (B.d d7_12) rfl k) ?_
    refine gs (mkF m 14 _ [(.ref a1), (.int (0 : Int32)), (.int (46 : Int32)), (.ref t)]) (fun T A t k => XS.aloadN A B.x rfl (B.d d7_13) rfl rfl k) ?_
    refine g_metN (c_virt B PE (hw _ (List.mem_of_getElem? (i := 47) rfl)) (hw _ (List.mem_of_getElem? (i := 48) rfl)) (hw _ (List.mem_of_getElem? (i := 50) rfl)) (hw _ (List.mem_of_getElem? (i := 49) rfl)) (nfs (z := (⟨"java/lang/String", "length", "()I"⟩ : MethodName)) (hw _ (List.mem_of_getElem? (i := 50) rfl))) (by decide) rfl (lenOf pd_2829I rfl) rfl (Nat.le_of_eq rfl) d7_14 rfl (argsL := []) (rest := [(.int (0 : Int32)), (.int (46 : Int32)), (.ref t)]) (W := 3) (q := 17)) (n_length_2_0 l Z a0 hw hEL a1 zc rv t kb c0 c1 h0 n0 PE PC PV PA PX PO) (hw _ (List.mem_of_getElem? (i := 51) rfl)) (hw _ (List.mem_of_getElem? (i := 7) rfl)) (by decide) (by decide) (by decide) (by decide) ?_
    intro v22 h22 hz22 hQ22
    obtain ⟨rfl, rfl⟩ := hQ22
    refine g_metN (c_static B (hw _ (List.mem_of_getElem? (i := 57) rfl)) (hw _ (List.mem_of_getElem? (i := 58) rfl)) (hw _ (List.mem_of_getElem? (i := 59) rfl)) (hw _ (List.mem_of_getElem? (i := 60) rfl)) (by decide) rfl (lenOf pd_285bBIII29I rfl) rfl (Nat.le_of_eq rfl) d7_17 rfl (argsL := [(.ref t), (.int (46 : Int32)), (.int (0 : Int32)), (.int (2 : Int32))]) (rest := []) (W := 0) (q := 20)) (n_l_indexOf_46_2 l Z a0 hw hEL t zc rv kb c0 c1 h0 n0 PA hr0 hr1 hl0 hl1 PX PO) (hw _ (List.mem_of_getElem? (i := 60) rfl)) (hw _ (List.mem_of_getElem? (i := 59) rfl)) (by decide) (by decide) (by decide) (by decide) ?_
    intro v23 h23 hz23 hQ23
    obtain ⟨rfl, rfl⟩ := hQ23
    refine gs (mkF m 36 _ [(.int (if c0 = (46 : Int32) then (0 : Int32) else (if c1 = (46 : Int32) then (1 : Int32) else (-1 : Int32))))]) (fun T A t k => XS.goto A B.x rfl (pc0 := 20) (pc' := 36) rfl (B.d d7_20) (by decide) (by decide) k) ?_
    exact g_retI B d7_36 (by decide) (by decide) ⟨rfl, rfl⟩
  · have PA : Arv Z h0 t kb .byte (4 : Int32) [(.int (StrChars.lo8 c0)), (.int (StrChars.hi8 c0)), (.int (StrChars.lo8 c1)), (.int (StrChars.hi8 c1))] (.int (0 : Int32)) := PA0
    refine gs (mkF m 1 _ [(.ref a1)]) (fun T A t k => XS.aloadN A B.x rfl (B.d d7_0) rfl rfl k) ?_
    refine g_metN (c_virt B PE (hw _ (List.mem_of_getElem? (i := 41) rfl)) (hw _ (List.mem_of_getElem? (i := 42) rfl)) (hw _ (List.mem_of_getElem? (i := 44) rfl)) (hw _ (List.mem_of_getElem? (i := 43) rfl)) (nfs (z := (⟨"java/lang/String", "isLatin1", "()Z"⟩ : MethodName)) (hw _ (List.mem_of_getElem? (i := 44) rfl))) (by decide) rfl (lenOf pd_2829Z rfl) rfl (Nat.le_of_eq rfl) d7_1 rfl (argsL := []) (rest := []) (W := 0) (q := 4)) (n_isLatin1_1 l Z a0 hw hEL a1 zc rv h0 n0 PE PC PX PO) (hw _ (List.mem_of_getElem? (i := 45) rfl)) (hw _ (List.mem_of_getElem? (i := 7) rfl)) (by decide) (by decide) (by decide) (by decide) ?_
    intro v24 h24 hz24 hQ24
    obtain ⟨rfl, rfl⟩ := hQ24
    refine gs (mkF m 23 _ []) (fun T A t k => XS.ifYes A B.x rfl (pc0 := 4) (pc' := 23) rfl (B.d d7_4) rfl ((if0 _ _).trans (teq (by decide : (0 : Int32) = (0 : Int32))).1) (by decide) (by decide) k) ?_
    refine gs (mkF m 24 _ [(.ref a1)]) (fun T A t k => XS.aloadN A B.x rfl (B.d d7_23) rfl rfl k) ?_
    refine g_getF B (hw _ (List.mem_of_getElem? (i := 25) rfl)) Via.refl PV d7_24 (q := 27) rfl ?_
    refine gs (mkF m 28 _ [(.int (46 : Int32)), (.ref t)]) (fun T A t k => XS.iloadN A B.x rfl (B.d d7_27) rfl k) ?_
    refine gs (mkF m 29 _ [(.int (0 : Int32)), (.int (46 : Int32)), (.ref t)]) (fun T A t k => XS.iloadN A B.x rfl (B.d d7_28) rfl k) ?_
    refine gs (mkF m 30 _ [(.ref a1), (.int (0 : Int32)), (.int (46 : Int32)), (.ref t)]) (fun T A t k => XS.aloadN A B.x rfl (B.d d7_29) rfl rfl k) ?_
    refine g_metN (c_virt B PE (hw _ (List.mem_of_getElem? (i := 47) rfl)) (hw _ (List.mem_of_getElem? (i := 48) rfl)) (hw _ (List.mem_of_getElem? (i := 50) rfl)) (hw _ (List.mem_of_getElem? (i := 49) rfl)) (nfs (z := (⟨"java/lang/String", "length", "()I"⟩ : MethodName)) (hw _ (List.mem_of_getElem? (i := 50) rfl))) (by decide) rfl (lenOf pd_2829I rfl) rfl (Nat.le_of_eq rfl) d7_30 rfl (argsL := []) (rest := [(.int (0 : Int32)), (.int (46 : Int32)), (.ref t)]) (W := 3) (q := 33)) (n_length_4_1 l Z a0 hw hEL a1 zc rv t kb c0 c1 h0 n0 PE PC PV PA PX PO) (hw _ (List.mem_of_getElem? (i := 51) rfl)) (hw _ (List.mem_of_getElem? (i := 7) rfl)) (by decide) (by decide) (by decide) (by decide) ?_
    intro v25 h25 hz25 hQ25
    obtain ⟨rfl, rfl⟩ := hQ25
    refine g_metN (c_static B (hw _ (List.mem_of_getElem? (i := 109) rfl)) (hw _ (List.mem_of_getElem? (i := 110) rfl)) (hw _ (List.mem_of_getElem? (i := 76) rfl)) (hw _ (List.mem_of_getElem? (i := 111) rfl)) (by decide) rfl (lenOf pd_285bBIII29I rfl) rfl (Nat.le_of_eq rfl) d7_33 rfl (argsL := [(.ref t), (.int (46 : Int32)), (.int (0 : Int32)), (.int (2 : Int32))]) (rest := []) (W := 0) (q := 36)) (n_u_indexOf_46_2 l Z a0 hw hEL t zc rv kb c0 c1 h0 n0 PA hr0 hr1 PX PO) (hw _ (List.mem_of_getElem? (i := 111) rfl)) (hw _ (List.mem_of_getElem? (i := 76) rfl)) (by decide) (by decide) (by decide) (by decide) ?_
    intro v26 h26 hz26 hQ26
    obtain ⟨rfl, rfl⟩ := hQ26
    exact g_retI B d7_36 (by decide) (by decide) ⟨rfl, rfl⟩
set_option maxRecDepth 65536 in
set_option maxHeartbeats 40000000 in
theorem n_idx1_46_2 (l : Launch) (Z : State) (a0 : Array Value) (hw : ∀ d ∈ tables_1, d.before a0 Z = true) (hEL : EW Z a0 []) (a1 : Addr) (zc : Int32) (rv : Value) (t : Addr) (c0 c1 : Int32) (h0 : Heap) (n0 : Nat) (PS : Str Z h0 a1 t [c0, c1]) (PX : Sts Z zc rv) (PO : Old Z n0 h0) :
    Met false Z [] l (⟨"java/lang/String", "indexOf", "(I)I"⟩ : MethodName) jdk_42_method_79_code 2 (some .int) ({ frames := 6, cells := 0, slots := 0, locals := 87 } : Room) #[(.ref a1), (.int (46 : Int32))] h0 [] n0 (fun v h => v = some (.int (if c0 = (46 : Int32) then (0 : Int32) else (if c1 = (46 : Int32) then (1 : Int32) else (-1 : Int32)))) ∧ h0 = h) := by
  refine Met.of (a0 := a0) (Ls := #[.val (.ref a1), .val (.int (46 : Int32))]) (fun z => rfl) (plainFor_of_name pn_java_lang_String) hEL (fun m => by first | (simp [entryFrame, mkF, argsToLocals, Value.category]; done) | rfl) ?_
  intro p e s m below meth c B hSf
  obtain ⟨SC, hzc, SA, SH, SL, SF, rf⟩ := id PX
  refine gs (mkF m 1 _ [(.ref a1)]) (fun T A t k => XS.aloadN A B.x rfl (B.d d6_0) rfl rfl k) ?_
  refine gs (mkF m 2 _ [(.int (46 : Int32)), (.ref a1)]) (fun T A t k => XS.iloadN A B.x rfl (B.d d6_1) rfl k) ?_
  refine gs (mkF m 3 _ [(.int (0 : Int32)), (.int (46 : Int32)), (.ref a1)]) (fun T A t k => XS.iconst A B.x rfl (B.d d6_2) k) ?_
  refine g_metN (c_virt B PS.exa (hw _ (List.mem_of_getElem? (i := 36) rfl)) (hw _ (List.mem_of_getElem? (i := 37) rfl)) (hw _ (List.mem_of_getElem? (i := 39) rfl)) (hw _ (List.mem_of_getElem? (i := 38) rfl)) (nfs (z := (⟨"java/lang/String", "indexOf", "(II)I"⟩ : MethodName)) (hw _ (List.mem_of_getElem? (i := 39) rfl))) (by decide) rfl (lenOf pd_28II29I rfl) rfl (Nat.le_of_eq rfl) d6_3 rfl (argsL := [(.int (46 : Int32)), (.int (0 : Int32))]) (rest := []) (W := 0) (q := 6)) (n_idx2_46_2 l Z a0 hw hEL a1 zc rv t c0 c1 h0 n0 PS PX PO) (hw _ (List.mem_of_getElem? (i := 40) rfl)) (hw _ (List.mem_of_getElem? (i := 7) rfl)) (by decide) (by decide) (by decide) (by decide) ?_
  intro v21 h21 hz21 hQ21
  obtain ⟨rfl, rfl⟩ := hQ21
  exact g_retI B d6_6 (by decide) (by decide) ⟨rfl, rfl⟩
set_option maxRecDepth 65536 in
set_option maxHeartbeats 40000000 in
theorem n_l_indexOfChar_64_2 (l : Launch) (Z : State) (a0 : Array Value) (hw : ∀ d ∈ tables_1, d.before a0 Z = true) (hEL : EW Z a0 []) (a1 : Addr) (zc : Int32) (rv : Value) (kb : ClassId) (c0 c1 : Int32) (h0 : Heap) (n0 : Nat) (PA : Arv Z h0 a1 kb .byte (2 : Int32) [(.int (StrChars.lo8 c0)), (.int (StrChars.lo8 c1))] (.int (0 : Int32))) (hr0 : rng c0) (hr1 : rng c1) (hl0 : ¬ (255 : Int32) < c0) (hl1 : ¬ (255 : Int32) < c1) (PX : Sts Z zc rv) (PO : Old Z n0 h0) :
    Met false Z [] l (⟨"java/lang/StringLatin1", "indexOfChar", "([BIII)I"⟩ : MethodName) jdk_43_method_23_code 6 (some .int) ({ frames := 0, cells := 0, slots := 0, locals := 0 } : Room) #[(.ref a1), (.int (64 : Int32)), (.int (0 : Int32)), (.int (2 : Int32))] h0 [] n0 (fun v h => v = some (.int (if c0 = (64 : Int32) then (0 : Int32) else (if c1 = (64 : Int32) then (1 : Int32) else (-1 : Int32)))) ∧ h0 = h) := by
  refine Met.of (a0 := a0) (Ls := #[.val (.ref a1), .val (.int (64 : Int32)), .val (.int (0 : Int32)), .val (.int (2 : Int32)), .unset, .unset]) (fun z => rfl) (plainFor_of_name pn_java_lang_StringLatin1) hEL (fun m => by first | (simp [entryFrame, mkF, argsToLocals, Value.category]; done) | rfl) ?_
  intro p e s m below meth c B hSf
  obtain ⟨SC, hzc, SA, SH, SL, SF, rf⟩ := id PX
  refine gs (mkF m 1 _ [(.int (64 : Int32))]) (fun T A t k => XS.iloadN A B.x rfl (B.d d20_0) rfl k) ?_
  refine gs (mkF m 2 _ [(.int (64 : Int32))]) (fun T A t k => XS.i2b A B.x rfl (B.d d20_1) rfl k) ?_
  refine gs (mkF m 4 #[.val (.ref a1), .val (.int (64 : Int32)), .val (.int (0 : Int32)), .val (.int (2 : Int32)), .val (.int (64 : Int32)), .unset] []) (fun T A t k => XS.istore A B.x rfl (B.d d20_2) rfl (l' := #[.val (.ref a1), .val (.int (64 : Int32)), .val (.int (0 : Int32)), .val (.int (2 : Int32)), .val (.int (64 : Int32)), .unset]) rfl k) ?_
  refine gs (mkF m 5 _ [(.int (0 : Int32))]) (fun T A t k => XS.iloadN A B.x rfl (B.d d20_4) rfl k) ?_
  refine gs (mkF m 7 #[.val (.ref a1), .val (.int (64 : Int32)), .val (.int (0 : Int32)), .val (.int (2 : Int32)), .val (.int (64 : Int32)), .val (.int (0 : Int32))] []) (fun T A t k => XS.istore A B.x rfl (B.d d20_5) rfl (l' := #[.val (.ref a1), .val (.int (64 : Int32)), .val (.int (0 : Int32)), .val (.int (2 : Int32)), .val (.int (64 : Int32)), .val (.int (0 : Int32))]) rfl k) ?_
  refine gs (mkF m 9 _ [(.int (0 : Int32))]) (fun T A t k => XS.iload A B.x rfl (B.d d20_7) rfl k) ?_
  refine gs (mkF m 10 _ [(.int (2 : Int32)), (.int (0 : Int32))]) (fun T A t k => XS.iloadN A B.x rfl (B.d d20_9) rfl k) ?_
  refine gs (mkF m 13 _ []) (fun T A t k => XS.icmpNo A B.x rfl (B.d d20_10) rfl (tlt (by decide : (0 : Int32) < (2 : Int32))).2.1 k) ?_
  refine gs (mkF m 14 _ [(.ref a1)]) (fun T A t k => XS.aloadN A B.x rfl (B.d d20_13) rfl rfl k) ?_
  refine gs (mkF m 16 _ [(.int (0 : Int32)), (.ref a1)]) (fun T A t k => XS.iload A B.x rfl (B.d d20_14) rfl k) ?_
  refine g_ldB B PA ⟨by decide, by decide⟩ (v := (.int (StrChars.lo8 c0))) rfl d20_16 (q := 17) rfl ?_
  refine gs (mkF m 19 _ [(.int (64 : Int32)), (.int (StrChars.lo8 c0))]) (fun T A t k => XS.iload A B.x rfl (B.d d20_17) rfl k) ?_
  by_cases hE0 : c0 = (64 : Int32)
  · refine gs (mkF m 22 _ []) (fun T A t k => XS.icmpNo A B.x rfl (B.d d20_19) rfl (teq ((by rw [hE0]; exact lo_64) : (StrChars.lo8 c0) = (64 : Int32))).2 k) ?_
    refine gs (mkF m 24 _ [(.int (0 : Int32))]) (fun T A t k => XS.iload A B.x rfl (B.d d20_22) rfl k) ?_
    exact g_retI B d20_24 (by decide) (by decide) ⟨by rw [if_pos hE0], rfl⟩
  · refine gs (mkF m 25 _ []) (fun T A t k => XS.icmpYes A B.x rfl (pc0 := 19) (pc' := 25) rfl (B.d d20_19) rfl (feq ((fun e => hE0 (lo_eq64 hr0.1 hl0 e)) : ¬ ((StrChars.lo8 c0) = (64 : Int32)))).2 (by decide) (by decide) k) ?_
    refine gs (mkF m 28 #[.val (.ref a1), .val (.int (64 : Int32)), .val (.int (0 : Int32)), .val (.int (2 : Int32)), .val (.int (64 : Int32)), .val (.int (1 : Int32))] []) (fun T A t k => XS.iinc A B.x rfl (B.d d20_25) rfl (l' := #[.val (.ref a1), .val (.int (64 : Int32)), .val (.int (0 : Int32)), .val (.int (2 : Int32)), .val (.int (64 : Int32)), .val (.int (1 : Int32))]) rfl k) ?_
    refine gs (mkF m 7 _ []) (fun T A t k => XS.goto A B.x rfl (pc0 := 28) (pc' := 7) rfl (B.d d20_28) (by decide) (by decide) k) ?_
    refine gs (mkF m 9 _ [(.int (1 : Int32))]) (fun T A t k => XS.iload A B.x rfl (B.d d20_7) rfl k) ?_
    refine gs (mkF m 10 _ [(.int (2 : Int32)), (.int (1 : Int32))]) (fun T A t k => XS.iloadN A B.x rfl (B.d d20_9) rfl k) ?_
    refine gs (mkF m 13 _ []) (fun T A t k => XS.icmpNo A B.x rfl (B.d d20_10) rfl (tlt (by decide : (1 : Int32) < (2 : Int32))).2.1 k) ?_
    refine gs (mkF m 14 _ [(.ref a1)]) (fun T A t k => XS.aloadN A B.x rfl (B.d d20_13) rfl rfl k) ?_
    refine gs (mkF m 16 _ [(.int (1 : Int32)), (.ref a1)]) (fun T A t k => XS.iload A B.x rfl (B.d d20_14) rfl k) ?_
    refine g_ldB B PA ⟨by decide, by decide⟩ (v := (.int (StrChars.lo8 c1))) rfl d20_16 (q := 17) rfl ?_
    refine gs (mkF m 19 _ [(.int (64 : Int32)), (.int (StrChars.lo8 c1))]) (fun T A t k => XS.iload A B.x rfl (B.d d20_17) rfl k) ?_
    by_cases hE1 : c1 = (64 : Int32)
    · refine gs (mkF m 22 _ []) (fun T A t k => XS.icmpNo A B.x rfl (B.d d20_19) rfl (teq ((by rw [hE1]; exact lo_64) : (StrChars.lo8 c1) = (64 : Int32))).2 k) ?_
      refine gs (mkF m 24 _ [(.int (1 : Int32))]) (fun T A t k => XS.iload A B.x rfl (B.d d20_22) rfl k) ?_
      exact g_retI B d20_24 (by decide) (by decide) ⟨by rw [if_neg hE0, if_pos hE1], rfl⟩
    · refine gs (mkF m 25 _ []) (fun T A t k => XS.icmpYes A B.x rfl (pc0 := 19) (pc' := 25) rfl (B.d d20_19) rfl (feq ((fun e => hE1 (lo_eq64 hr1.1 hl1 e)) : ¬ ((StrChars.lo8 c1) = (64 : Int32)))).2 (by decide) (by decide) k) ?_
      refine gs (mkF m 28 #[.val (.ref a1), .val (.int (64 : Int32)), .val (.int (0 : Int32)), .val (.int (2 : Int32)), .val (.int (64 : Int32)), .val (.int (2 : Int32))] []) (fun T A t k => XS.iinc A B.x rfl (B.d d20_25) rfl (l' := #[.val (.ref a1), .val (.int (64 : Int32)), .val (.int (0 : Int32)), .val (.int (2 : Int32)), .val (.int (64 : Int32)), .val (.int (2 : Int32))]) rfl k) ?_
      refine gs (mkF m 7 _ []) (fun T A t k => XS.goto A B.x rfl (pc0 := 28) (pc' := 7) rfl (B.d d20_28) (by decide) (by decide) k) ?_
      refine gs (mkF m 9 _ [(.int (2 : Int32))]) (fun T A t k => XS.iload A B.x rfl (B.d d20_7) rfl k) ?_
      refine gs (mkF m 10 _ [(.int (2 : Int32)), (.int (2 : Int32))]) (fun T A t k => XS.iloadN A B.x rfl (B.d d20_9) rfl k) ?_
      refine gs (mkF m 31 _ []) (fun T A t k => XS.icmpYes A B.x rfl (pc0 := 10) (pc' := 31) rfl (B.d d20_10) rfl (flt (by decide : ¬ ((2 : Int32) < (2 : Int32)))).2.1 (by decide) (by decide) k) ?_
      refine gs (mkF m 32 _ [(.int (-1 : Int32))]) (fun T A t k => XS.iconst A B.x rfl (B.d d20_31) k) ?_
      exact g_retI B d20_32 (by decide) (by decide) ⟨by rw [if_neg hE0, if_neg hE1], rfl⟩
set_option maxRecDepth 65536 in
set_option maxHeartbeats 40000000 in
theorem n_l_indexOf_64_2 (l : Launch) (Z : State) (a0 : Array Value) (hw : ∀ d ∈ tables_1, d.before a0 Z = true) (hEL : EW Z a0 []) (a1 : Addr) (zc : Int32) (rv : Value) (kb : ClassId) (c0 c1 : Int32) (h0 : Heap) (n0 : Nat) (PA : Arv Z h0 a1 kb .byte (2 : Int32) [(.int (StrChars.lo8 c0)), (.int (StrChars.lo8 c1))] (.int (0 : Int32))) (hr0 : rng c0) (hr1 : rng c1) (hl0 : ¬ (255 : Int32) < c0) (hl1 : ¬ (255 : Int32) < c1) (PX : Sts Z zc rv) (PO : Old Z n0 h0) :
    Met false Z [] l (⟨"java/lang/StringLatin1", "indexOf", "([BIII)I"⟩ : MethodName) jdk_43_method_22_code 4 (some .int) ({ frames := 1, cells := 0, slots := 0, locals := 17 } : Room) #[(.ref a1), (.int (64 : Int32)), (.int (0 : Int32)), (.int (2 : Int32))] h0 [] n0 (fun v h => v = some (.int (if c0 = (64 : Int32) then (0 : Int32) else (if c1 = (64 : Int32) then (1 : Int32) else (-1 : Int32)))) ∧ h0 = h) := by
  refine Met.of (a0 := a0) (Ls := #[.val (.ref a1), .val (.int (64 : Int32)), .val (.int (0 : Int32)), .val (.int (2 : Int32))]) (fun z => rfl) (plainFor_of_name pn_java_lang_StringLatin1) hEL (fun m => by first | (simp [entryFrame, mkF, argsToLocals, Value.category]; done) | rfl) ?_
  intro p e s m below meth c B hSf
  obtain ⟨SC, hzc, SA, SH, SL, SF, rf⟩ := id PX
  refine gs (mkF m 1 _ [(.int (64 : Int32))]) (fun T A t k => XS.iloadN A B.x rfl (B.d d11_0) rfl k) ?_
  refine g_metN (c_static B (hw _ (List.mem_of_getElem? (i := 61) rfl)) (hw _ (List.mem_of_getElem? (i := 62) rfl)) (hw _ (List.mem_of_getElem? (i := 59) rfl)) (hw _ (List.mem_of_getElem? (i := 63) rfl)) (by decide) rfl (lenOf pd_28I29Z rfl) rfl (Nat.le_of_eq rfl) d11_1 rfl (argsL := [(.int (64 : Int32))]) (rest := []) (W := 0) (q := 4)) (n_ce_64 l Z a0 hw hEL  h0 n0) (hw _ (List.mem_of_getElem? (i := 63) rfl)) (hw _ (List.mem_of_getElem? (i := 59) rfl)) (by decide) (by decide) (by decide) (by decide) ?_
  intro v21 h21 hz21 hQ21
  obtain ⟨rfl, rfl⟩ := hQ21
  refine gs (mkF m 9 _ []) (fun T A t k => XS.ifYes A B.x rfl (pc0 := 4) (pc' := 9) rfl (B.d d11_4) rfl ((if0 _ _).trans (feq (by decide : ¬ ((1 : Int32) = (0 : Int32)))).2) (by decide) (by decide) k) ?_
  refine gs (mkF m 10 _ [(.int (0 : Int32))]) (fun T A t k => XS.iloadN A B.x rfl (B.d d11_9) rfl k) ?_
  refine gs (mkF m 11 _ [(.int (0 : Int32)), (.int (0 : Int32))]) (fun T A t k => XS.iconst A B.x rfl (B.d d11_10) k) ?_
  refine g_metN (c_static B (hw _ (List.mem_of_getElem? (i := 64) rfl)) (hw _ (List.mem_of_getElem? (i := 65) rfl)) (hw _ (List.mem_of_getElem? (i := 66) rfl)) (hw _ (List.mem_of_getElem? (i := 67) rfl)) (by decide) rfl (lenOf pd_28II29I rfl) rfl (Nat.le_of_eq rfl) d11_11 rfl (argsL := [(.int (0 : Int32)), (.int (0 : Int32))]) (rest := []) (W := 0) (q := 14)) (n_max_0_0 l Z a0 hw hEL  h0 n0) (hw _ (List.mem_of_getElem? (i := 67) rfl)) (hw _ (List.mem_of_getElem? (i := 66) rfl)) (by decide) (by decide) (by decide) (by decide) ?_
  intro v22 h22 hz22 hQ22
  obtain ⟨rfl, rfl⟩ := hQ22
  refine gs (mkF m 15 #[.val (.ref a1), .val (.int (64 : Int32)), .val (.int (0 : Int32)), .val (.int (2 : Int32))] []) (fun T A t k => XS.istoreN A B.x rfl (B.d d11_14) rfl (l' := #[.val (.ref a1), .val (.int (64 : Int32)), .val (.int (0 : Int32)), .val (.int (2 : Int32))]) rfl k) ?_
  refine gs (mkF m 16 _ [(.int (2 : Int32))]) (fun T A t k => XS.iloadN A B.x rfl (B.d d11_15) rfl k) ?_
  refine gs (mkF m 17 _ [(.ref a1), (.int (2 : Int32))]) (fun T A t k => XS.aloadN A B.x rfl (B.d d11_16) rfl rfl k) ?_
  refine g_len B PA d11_17 (q := 18) rfl ?_
  refine g_metN (c_static B (hw _ (List.mem_of_getElem? (i := 68) rfl)) (hw _ (List.mem_of_getElem? (i := 69) rfl)) (hw _ (List.mem_of_getElem? (i := 66) rfl)) (hw _ (List.mem_of_getElem? (i := 70) rfl)) (by decide) rfl (lenOf pd_28II29I rfl) rfl (Nat.le_of_eq rfl) d11_18 rfl (argsL := [(.int (2 : Int32)), (.int (2 : Int32))]) (rest := []) (W := 0) (q := 21)) (n_min_2_2 l Z a0 hw hEL  h0 n0) (hw _ (List.mem_of_getElem? (i := 70) rfl)) (hw _ (List.mem_of_getElem? (i := 66) rfl)) (by decide) (by decide) (by decide) (by decide) ?_
  intro v23 h23 hz23 hQ23
  obtain ⟨rfl, rfl⟩ := hQ23
  refine gs (mkF m 22 #[.val (.ref a1), .val (.int (64 : Int32)), .val (.int (0 : Int32)), .val (.int (2 : Int32))] []) (fun T A t k => XS.istoreN A B.x rfl (B.d d11_21) rfl (l' := #[.val (.ref a1), .val (.int (64 : Int32)), .val (.int (0 : Int32)), .val (.int (2 : Int32))]) rfl k) ?_
  refine gs (mkF m 23 _ [(.int (0 : Int32))]) (fun T A t k => XS.iloadN A B.x rfl (B.d d11_22) rfl k) ?_
  refine gs (mkF m 24 _ [(.int (2 : Int32)), (.int (0 : Int32))]) (fun T A t k => XS.iloadN A B.x rfl (B.d d11_23) rfl k) ?_
  refine gs (mkF m 29 _ []) (fun T A t k => XS.icmpYes A B.x rfl (pc0 := 24) (pc' := 29) rfl (B.d d11_24) rfl (tlt (by decide : (0 : Int32) < (2 : Int32))).1 (by decide) (by decide) k) ?_
  refine gs (mkF m 30 _ [(.ref a1)]) (fun T A t k => XS.aloadN A B.x rfl (B.d d11_29) rfl rfl k) ?_
  refine gs (mkF m 31 _ [(.int (64 : Int32)), (.ref a1)]) (fun T A t k => XS.iloadN A B.x rfl (B.d d11_30) rfl k) ?_
  refine gs (mkF m 32 _ [(.int (0 : Int32)), (.int (64 : Int32)), (.ref a1)]) (fun T A t k => XS.iloadN A B.x rfl (B.d d11_31) rfl k) ?_
  refine gs (mkF m 33 _ [(.int (2 : Int32)), (.int (0 : Int32)), (.int (64 : Int32)), (.ref a1)]) (fun T A t k => XS.iloadN A B.x rfl (B.d d11_32) rfl k) ?_
  refine g_metN (c_static B (hw _ (List.mem_of_getElem? (i := 87) rfl)) (hw _ (List.mem_of_getElem? (i := 88) rfl)) (hw _ (List.mem_of_getElem? (i := 59) rfl)) (hw _ (List.mem_of_getElem? (i := 89) rfl)) (by decide) rfl (lenOf pd_285bBIII29I rfl) rfl (Nat.le_of_eq rfl) d11_33 rfl (argsL := [(.ref a1), (.int (64 : Int32)), (.int (0 : Int32)), (.int (2 : Int32))]) (rest := []) (W := 0) (q := 36)) (n_l_indexOfChar_64_2 l Z a0 hw hEL a1 zc rv kb c0 c1 h0 n0 PA hr0 hr1 hl0 hl1 PX PO) (hw _ (List.mem_of_getElem? (i := 89) rfl)) (hw _ (List.mem_of_getElem? (i := 59) rfl)) (by decide) (by decide) (by decide) (by decide) ?_
  intro v24 h24 hz24 hQ24
  obtain ⟨rfl, rfl⟩ := hQ24
  exact g_retI B d11_36 (by decide) (by decide) ⟨rfl, rfl⟩
set_option maxRecDepth 65536 in
set_option maxHeartbeats 40000000 in
theorem n_u_indexOfCharUnsafe_64_2 (l : Launch) (Z : State) (a0 : Array Value) (hw : ∀ d ∈ tables_1, d.before a0 Z = true) (hEL : EW Z a0 []) (a1 : Addr) (zc : Int32) (rv : Value) (kb : ClassId) (c0 c1 : Int32) (h0 : Heap) (n0 : Nat) (PA : Arv Z h0 a1 kb .byte (4 : Int32) [(.int (StrChars.lo8 c0)), (.int (StrChars.hi8 c0)), (.int (StrChars.lo8 c1)), (.int (StrChars.hi8 c1))] (.int (0 : Int32))) (hr0 : rng c0) (hr1 : rng c1) (PX : Sts Z zc rv) (PO : Old Z n0 h0) :
    Met false Z [] l (⟨"java/lang/StringUTF16", "indexOfCharUnsafe", "([BIII)I"⟩ : MethodName) jdk_52_method_48_code 5 (some .int) ({ frames := 1, cells := 0, slots := 0, locals := 13 } : Room) #[(.ref a1), (.int (64 : Int32)), (.int (0 : Int32)), (.int (2 : Int32))] h0 [] n0 (fun v h => v = some (.int (if c0 = (64 : Int32) then (0 : Int32) else (if c1 = (64 : Int32) then (1 : Int32) else (-1 : Int32)))) ∧ h0 = h) := by
  refine Met.of (a0 := a0) (Ls := #[.val (.ref a1), .val (.int (64 : Int32)), .val (.int (0 : Int32)), .val (.int (2 : Int32)), .unset]) (fun z => rfl) (plainFor_of_name pn_java_lang_StringUTF16) hEL (fun m => by first | (simp [entryFrame, mkF, argsToLocals, Value.category]; done) | rfl) ?_
  intro p e s m below meth c B hSf
  obtain ⟨SC, hzc, SA, SH, SL, SF, rf⟩ := id PX
  refine gs (mkF m 1 _ [(.int (0 : Int32))]) (fun T A t k => XS.iloadN A B.x rfl (B.d d32_0) rfl k) ?_
  refine gs (mkF m 3 #[.val (.ref a1), .val (.int (64 : Int32)), .val (.int (0 : Int32)), .val (.int (2 : Int32)), .val (.int (0 : Int32))] []) (fun T A t k => XS.istore A B.x rfl (B.d d32_1) rfl (l' := #[.val (.ref a1), .val (.int (64 : Int32)), .val (.int (0 : Int32)), .val (.int (2 : Int32)), .val (.int (0 : Int32))]) rfl k) ?_
  refine gs (mkF m 5 _ [(.int (0 : Int32))]) (fun T A t k => XS.iload A B.x rfl (B.d d32_3) rfl k) ?_
  refine gs (mkF m 6 _ [(.int (2 : Int32)), (.int (0 : Int32))]) (fun T A t k => XS.iloadN A B.x rfl (B.d d32_5) rfl k) ?_
  refine gs (mkF m 9 _ []) (fun T A t k => XS.icmpNo A B.x rfl (B.d d32_6) rfl (tlt (by decide : (0 : Int32) < (2 : Int32))).2.1 k) ?_
  refine gs (mkF m 10 _ [(.ref a1)]) (fun T A t k => XS.aloadN A B.x rfl (B.d d32_9) rfl rfl k) ?_
  refine gs (mkF m 12 _ [(.int (0 : Int32)), (.ref a1)]) (fun T A t k => XS.iload A B.x rfl (B.d d32_10) rfl k) ?_
  refine g_metN (c_static B (hw _ (List.mem_of_getElem? (i := 106) rfl)) (hw _ (List.mem_of_getElem? (i := 107) rfl)) (hw _ (List.mem_of_getElem? (i := 76) rfl)) (hw _ (List.mem_of_getElem? (i := 108) rfl)) (by decide) rfl (lenOf pd_285bBI29C rfl) rfl (Nat.le_of_eq rfl) d32_12 rfl (argsL := [(.ref a1), (.int (0 : Int32))]) (rest := []) (W := 0) (q := 15)) (n_gc_4_0 l Z a0 hw hEL a1 zc rv kb c0 c1 h0 n0 PA hr0 PX PO) (hw _ (List.mem_of_getElem? (i := 108) rfl)) (hw _ (List.mem_of_getElem? (i := 76) rfl)) (by decide) (by decide) (by decide) (by decide) ?_
  intro v21 h21 hz21 hQ21
  obtain ⟨rfl, rfl⟩ := hQ21
  refine gs (mkF m 16 _ [(.int (64 : Int32)), (.int c0)]) (fun T A t k => XS.iloadN A B.x rfl (B.d d32_15) rfl k) ?_
  by_cases hE0 : c0 = (64 : Int32)
  · refine gs (mkF m 19 _ []) (fun T A t k => XS.icmpNo A B.x rfl (B.d d32_16) rfl (teq (hE0 : c0 = (64 : Int32))).2 k) ?_
    refine gs (mkF m 21 _ [(.int (0 : Int32))]) (fun T A t k => XS.iload A B.x rfl (B.d d32_19) rfl k) ?_
    exact g_retI B d32_21 (by decide) (by decide) ⟨by rw [if_pos hE0], rfl⟩
  · refine gs (mkF m 22 _ []) (fun T A t k => XS.icmpYes A B.x rfl (pc0 := 16) (pc' := 22) rfl (B.d d32_16) rfl (feq (hE0 : ¬ (c0 = (64 : Int32)))).2 (by decide) (by decide) k) ?_
    refine gs (mkF m 25 #[.val (.ref a1), .val (.int (64 : Int32)), .val (.int (0 : Int32)), .val (.int (2 : Int32)), .val (.int (1 : Int32))] []) (fun T A t k => XS.iinc A B.x rfl (B.d d32_22) rfl (l' := #[.val (.ref a1), .val (.int (64 : Int32)), .val (.int (0 : Int32)), .val (.int (2 : Int32)), .val (.int (1 : Int32))]) rfl k) ?_
    refine gs (mkF m 3 _ []) (fun T A t k => XS.goto A B.x rfl (pc0 := 25) (pc' := 3) rfl (B.d d32_25) (by decide) (by decide) k) ?_
    refine gs (mkF m 5 _ [(.int (1 : Int32))]) (fun T A t k => XS.iload A B.x rfl (B.d d32_3) rfl k) ?_
    refine gs (mkF m 6 _ [(.int (2 : Int32)), (.int (1 : Int32))]) (fun T A t k => XS.iloadN A B.x rfl (B.d d32_5) rfl k) ?_
    refine gs (mkF m 9 _ []) (fun T A t k => XS.icmpNo A B.x rfl (B.d d32_6) rfl (tlt (by decide : (1 : Int32) < (2 : Int32))).2.1 k) ?_
    refine gs (mkF m 10 _ [(.ref a1)]) (fun T A t k => XS.aloadN A B.x rfl (B.d d32_9) rfl rfl k) ?_
    refine gs (mkF m 12 _ [(.int (1 : Int32)), (.ref a1)]) (fun T A t k => XS.iload A B.x rfl (B.d d32_10) rfl k) ?_
    refine g_metN (c_static B (hw _ (List.mem_of_getElem? (i := 106) rfl)) (hw _ (List.mem_of_getElem? (i := 107) rfl)) (hw _ (List.mem_of_getElem? (i := 76) rfl)) (hw _ (List.mem_of_getElem? (i := 108) rfl)) (by decide) rfl (lenOf pd_285bBI29C rfl) rfl (Nat.le_of_eq rfl) d32_12 rfl (argsL := [(.ref a1), (.int (1 : Int32))]) (rest := []) (W := 0) (q := 15)) (n_gc_4_1 l Z a0 hw hEL a1 zc rv kb c0 c1 h0 n0 PA hr1 PX PO) (hw _ (List.mem_of_getElem? (i := 108) rfl)) (hw _ (List.mem_of_getElem? (i := 76) rfl)) (by decide) (by decide) (by decide) (by decide) ?_
    intro v22 h22 hz22 hQ22
    obtain ⟨rfl, rfl⟩ := hQ22
    refine gs (mkF m 16 _ [(.int (64 : Int32)), (.int c1)]) (fun T A t k => XS.iloadN A B.x rfl (B.d d32_15) rfl k) ?_
    by_cases hE1 : c1 = (64 : Int32)
    · refine gs (mkF m 19 _ []) (fun T A t k => XS.icmpNo A B.x rfl (B.d d32_16) rfl (teq (hE1 : c1 = (64 : Int32))).2 k) ?_
      refine gs (mkF m 21 _ [(.int (1 : Int32))]) (fun T A t k => XS.iload A B.x rfl (B.d d32_19) rfl k) ?_
      exact g_retI B d32_21 (by decide) (by decide) ⟨by rw [if_neg hE0, if_pos hE1], rfl⟩
    · refine gs (mkF m 22 _ []) (fun T A t k => XS.icmpYes A B.x rfl (pc0 := 16) (pc' := 22) rfl (B.d d32_16) rfl (feq (hE1 : ¬ (c1 = (64 : Int32)))).2 (by decide) (by decide) k) ?_
      refine gs (mkF m 25 #[.val (.ref a1), .val (.int (64 : Int32)), .val (.int (0 : Int32)), .val (.int (2 : Int32)), .val (.int (2 : Int32))] []) (fun T A t k => XS.iinc A B.x rfl (B.d d32_22) rfl (l' := #[.val (.ref a1), .val (.int (64 : Int32)), .val (.int (0 : Int32)), .val (.int (2 : Int32)), .val (.int (2 : Int32))]) rfl k) ?_
      refine gs (mkF m 3 _ []) (fun T A t k => XS.goto A B.x rfl (pc0 := 25) (pc' := 3) rfl (B.d d32_25) (by decide) (by decide) k) ?_
      refine gs (mkF m 5 _ [(.int (2 : Int32))]) (fun T A t k => XS.iload A B.x rfl (B.d d32_3) rfl k) ?_
      refine gs (mkF m 6 _ [(.int (2 : Int32)), (.int (2 : Int32))]) (fun T A t k => XS.iloadN A B.x rfl (B.d d32_5) rfl k) ?_
      refine gs (mkF m 28 _ []) (fun T A t k => XS.icmpYes A B.x rfl (pc0 := 6) (pc' := 28) rfl (B.d d32_6) rfl (flt (by decide : ¬ ((2 : Int32) < (2 : Int32)))).2.1 (by decide) (by decide) k) ?_
      refine gs (mkF m 29 _ [(.int (-1 : Int32))]) (fun T A t k => XS.iconst A B.x rfl (B.d d32_28) k) ?_
      exact g_retI B d32_29 (by decide) (by decide) ⟨by rw [if_neg hE0, if_neg hE1], rfl⟩
set_option maxRecDepth 65536 in
set_option maxHeartbeats 40000000 in
theorem n_u_indexOfChar_64_2 (l : Launch) (Z : State) (a0 : Array Value) (hw : ∀ d ∈ tables_1, d.before a0 Z = true) (hEL : EW Z a0 []) (a1 : Addr) (zc : Int32) (rv : Value) (kb : ClassId) (c0 c1 : Int32) (h0 : Heap) (n0 : Nat) (PA : Arv Z h0 a1 kb .byte (4 : Int32) [(.int (StrChars.lo8 c0)), (.int (StrChars.hi8 c0)), (.int (StrChars.lo8 c1)), (.int (StrChars.hi8 c1))] (.int (0 : Int32))) (hr0 : rng c0) (hr1 : rng c1) (PX : Sts Z zc rv) (PO : Old Z n0 h0) :
    Met false Z [] l (⟨"java/lang/StringUTF16", "indexOfChar", "([BIII)I"⟩ : MethodName) jdk_52_method_47_code 4 (some .int) ({ frames := 3, cells := 0, slots := 0, locals := 43 } : Room) #[(.ref a1), (.int (64 : Int32)), (.int (0 : Int32)), (.int (2 : Int32))] h0 [] n0 (fun v h => v = some (.int (if c0 = (64 : Int32) then (0 : Int32) else (if c1 = (64 : Int32) then (1 : Int32) else (-1 : Int32)))) ∧ h0 = h) := by
  refine Met.of (a0 := a0) (Ls := #[.val (.ref a1), .val (.int (64 : Int32)), .val (.int (0 : Int32)), .val (.int (2 : Int32))]) (fun z => rfl) (plainFor_of_name pn_java_lang_StringUTF16) hEL (fun m => by first | (simp [entryFrame, mkF, argsToLocals, Value.category]; done) | rfl) ?_
  intro p e s m below meth c B hSf
  obtain ⟨SC, hzc, SA, SH, SL, SF, rf⟩ := id PX
  refine gs (mkF m 1 _ [(.int (0 : Int32))]) (fun T A t k => XS.iloadN A B.x rfl (B.d d27_0) rfl k) ?_
  refine gs (mkF m 2 _ [(.int (2 : Int32)), (.int (0 : Int32))]) (fun T A t k => XS.iloadN A B.x rfl (B.d d27_1) rfl k) ?_
  refine gs (mkF m 3 _ [(.ref a1), (.int (2 : Int32)), (.int (0 : Int32))]) (fun T A t k => XS.aloadN A B.x rfl (B.d d27_2) rfl rfl k) ?_
  refine g_metN (c_static B (hw _ (List.mem_of_getElem? (i := 118) rfl)) (hw _ (List.mem_of_getElem? (i := 119) rfl)) (hw _ (List.mem_of_getElem? (i := 76) rfl)) (hw _ (List.mem_of_getElem? (i := 120) rfl)) (by decide) rfl (lenOf pd_28II5bB29V rfl) rfl (Nat.le_of_eq rfl) d27_3 rfl (argsL := [(.int (0 : Int32)), (.int (2 : Int32)), (.ref a1)]) (rest := []) (W := 0) (q := 6)) (n_cu_4 l Z a0 hw hEL a1 zc rv kb c0 c1 h0 n0 PA PX PO) (hw _ (List.mem_of_getElem? (i := 120) rfl)) (hw _ (List.mem_of_getElem? (i := 76) rfl)) (by decide) (by decide) (by decide) (by decide) ?_
  intro v21 h21 hz21 hQ21
  obtain ⟨rfl, rfl⟩ := hQ21
  refine gs (mkF m 7 _ [(.ref a1)]) (fun T A t k => XS.aloadN A B.x rfl (B.d d27_6) rfl rfl k) ?_
  refine gs (mkF m 8 _ [(.int (64 : Int32)), (.ref a1)]) (fun T A t k => XS.iloadN A B.x rfl (B.d d27_7) rfl k) ?_
  refine gs (mkF m 9 _ [(.int (0 : Int32)), (.int (64 : Int32)), (.ref a1)]) (fun T A t k => XS.iloadN A B.x rfl (B.d d27_8) rfl k) ?_
  refine gs (mkF m 10 _ [(.int (2 : Int32)), (.int (0 : Int32)), (.int (64 : Int32)), (.ref a1)]) (fun T A t k => XS.iloadN A B.x rfl (B.d d27_9) rfl k) ?_
  refine g_metN (c_static B (hw _ (List.mem_of_getElem? (i := 132) rfl)) (hw _ (List.mem_of_getElem? (i := 133) rfl)) (hw _ (List.mem_of_getElem? (i := 76) rfl)) (hw _ (List.mem_of_getElem? (i := 134) rfl)) (by decide) rfl (lenOf pd_285bBIII29I rfl) rfl (Nat.le_of_eq rfl) d27_10 rfl (argsL := [(.ref a1), (.int (64 : Int32)), (.int (0 : Int32)), (.int (2 : Int32))]) (rest := []) (W := 0) (q := 13)) (n_u_indexOfCharUnsafe_64_2 l Z a0 hw hEL a1 zc rv kb c0 c1 h0 n0 PA hr0 hr1 PX PO) (hw _ (List.mem_of_getElem? (i := 134) rfl)) (hw _ (List.mem_of_getElem? (i := 76) rfl)) (by decide) (by decide) (by decide) (by decide) ?_
  intro v22 h22 hz22 hQ22
  obtain ⟨rfl, rfl⟩ := hQ22
  exact g_retI B d27_13 (by decide) (by decide) ⟨rfl, rfl⟩
set_option maxRecDepth 65536 in
set_option maxHeartbeats 40000000 in
theorem n_u_indexOf_64_2 (l : Launch) (Z : State) (a0 : Array Value) (hw : ∀ d ∈ tables_1, d.before a0 Z = true) (hEL : EW Z a0 []) (a1 : Addr) (zc : Int32) (rv : Value) (kb : ClassId) (c0 c1 : Int32) (h0 : Heap) (n0 : Nat) (PA : Arv Z h0 a1 kb .byte (4 : Int32) [(.int (StrChars.lo8 c0)), (.int (StrChars.hi8 c0)), (.int (StrChars.lo8 c1)), (.int (StrChars.hi8 c1))] (.int (0 : Int32))) (hr0 : rng c0) (hr1 : rng c1) (PX : Sts Z zc rv) (PO : Old Z n0 h0) :
    Met false Z [] l (⟨"java/lang/StringUTF16", "indexOf", "([BIII)I"⟩ : MethodName) jdk_52_method_40_code 4 (some .int) ({ frames := 4, cells := 0, slots := 0, locals := 58 } : Room) #[(.ref a1), (.int (64 : Int32)), (.int (0 : Int32)), (.int (2 : Int32))] h0 [] n0 (fun v h => v = some (.int (if c0 = (64 : Int32) then (0 : Int32) else (if c1 = (64 : Int32) then (1 : Int32) else (-1 : Int32)))) ∧ h0 = h) := by
  refine Met.of (a0 := a0) (Ls := #[.val (.ref a1), .val (.int (64 : Int32)), .val (.int (0 : Int32)), .val (.int (2 : Int32))]) (fun z => rfl) (plainFor_of_name pn_java_lang_StringUTF16) hEL (fun m => by first | (simp [entryFrame, mkF, argsToLocals, Value.category]; done) | rfl) ?_
  intro p e s m below meth c B hSf
  obtain ⟨SC, hzc, SA, SH, SL, SF, rf⟩ := id PX
  refine gs (mkF m 1 _ [(.int (0 : Int32))]) (fun T A t k => XS.iloadN A B.x rfl (B.d d26_0) rfl k) ?_
  refine gs (mkF m 2 _ [(.int (0 : Int32)), (.int (0 : Int32))]) (fun T A t k => XS.iconst A B.x rfl (B.d d26_1) k) ?_
  refine g_metN (c_static B (hw _ (List.mem_of_getElem? (i := 112) rfl)) (hw _ (List.mem_of_getElem? (i := 65) rfl)) (hw _ (List.mem_of_getElem? (i := 66) rfl)) (hw _ (List.mem_of_getElem? (i := 67) rfl)) (by decide) rfl (lenOf pd_28II29I rfl) rfl (Nat.le_of_eq rfl) d26_2 rfl (argsL := [(.int (0 : Int32)), (.int (0 : Int32))]) (rest := []) (W := 0) (q := 5)) (n_max_0_0 l Z a0 hw hEL  h0 n0) (hw _ (List.mem_of_getElem? (i := 67) rfl)) (hw _ (List.mem_of_getElem? (i := 66) rfl)) (by decide) (by decide) (by decide) (by decide) ?_
  intro v21 h21 hz21 hQ21
  obtain ⟨rfl, rfl⟩ := hQ21
  refine gs (mkF m 6 #[.val (.ref a1), .val (.int (64 : Int32)), .val (.int (0 : Int32)), .val (.int (2 : Int32))] []) (fun T A t k => XS.istoreN A B.x rfl (B.d d26_5) rfl (l' := #[.val (.ref a1), .val (.int (64 : Int32)), .val (.int (0 : Int32)), .val (.int (2 : Int32))]) rfl k) ?_
  refine gs (mkF m 7 _ [(.int (2 : Int32))]) (fun T A t k => XS.iloadN A B.x rfl (B.d d26_6) rfl k) ?_
  refine gs (mkF m 8 _ [(.ref a1), (.int (2 : Int32))]) (fun T A t k => XS.aloadN A B.x rfl (B.d d26_7) rfl rfl k) ?_
  refine g_len B PA d26_8 (q := 9) rfl ?_
  refine gs (mkF m 10 _ [(.int (1 : Int32)), (.int (4 : Int32)), (.int (2 : Int32))]) (fun T A t k => XS.iconst A B.x rfl (B.d d26_9) k) ?_
  refine gs (mkF m 11 _ [(.int (2 : Int32)), (.int (2 : Int32))]) (fun T A t k => XS.ishr A B.x rfl (B.d d26_10) rfl k) ?_
  refine g_metN (c_static B (hw _ (List.mem_of_getElem? (i := 113) rfl)) (hw _ (List.mem_of_getElem? (i := 69) rfl)) (hw _ (List.mem_of_getElem? (i := 66) rfl)) (hw _ (List.mem_of_getElem? (i := 70) rfl)) (by decide) rfl (lenOf pd_28II29I rfl) rfl (Nat.le_of_eq rfl) d26_11 rfl (argsL := [(.int (2 : Int32)), (.int (2 : Int32))]) (rest := []) (W := 0) (q := 14)) (n_min_2_2 l Z a0 hw hEL  h0 n0) (hw _ (List.mem_of_getElem? (i := 70) rfl)) (hw _ (List.mem_of_getElem? (i := 66) rfl)) (by decide) (by decide) (by decide) (by decide) ?_
  intro v22 h22 hz22 hQ22
  obtain ⟨rfl, rfl⟩ := hQ22
  refine gs (mkF m 15 #[.val (.ref a1), .val (.int (64 : Int32)), .val (.int (0 : Int32)), .val (.int (2 : Int32))] []) (fun T A t k => XS.istoreN A B.x rfl (B.d d26_14) rfl (l' := #[.val (.ref a1), .val (.int (64 : Int32)), .val (.int (0 : Int32)), .val (.int (2 : Int32))]) rfl k) ?_
  refine gs (mkF m 16 _ [(.int (0 : Int32))]) (fun T A t k => XS.iloadN A B.x rfl (B.d d26_15) rfl k) ?_
  refine gs (mkF m 17 _ [(.int (2 : Int32)), (.int (0 : Int32))]) (fun T A t k => XS.iloadN A B.x rfl (B.d d26_16) rfl k) ?_
  refine gs (mkF m 22 _ []) (fun T A t k => XS.icmpYes A B.x rfl (pc0 := 17) (pc' := 22) rfl (B.d d26_17) rfl (tlt (by decide : (0 : Int32) < (2 : Int32))).1 (by decide) (by decide) k) ?_
  refine gs (mkF m 23 _ [(.int (64 : Int32))]) (fun T A t k => XS.iloadN A B.x rfl (B.d d26_22) rfl k) ?_
  refine g_ldcI B (hw _ (List.mem_of_getElem? (i := 114) rfl)) d26_23 (q := 25) rfl ?_
  refine gs (mkF m 28 _ []) (fun T A t k => XS.icmpNo A B.x rfl (B.d d26_25) rfl (tlt (by decide : (64 : Int32) < (65536 : Int32))).2.1 k) ?_
  refine gs (mkF m 29 _ [(.ref a1)]) (fun T A t k => XS.aloadN A B.x rfl (B.d d26_28) rfl rfl k) ?_
  refine gs (mkF m 30 _ [(.int (64 : Int32)), (.ref a1)]) (fun T A t k => XS.iloadN A B.x rfl (B.d d26_29) rfl k) ?_
  refine gs (mkF m 31 _ [(.int (0 : Int32)), (.int (64 : Int32)), (.ref a1)]) (fun T A t k => XS.iloadN A B.x rfl (B.d d26_30) rfl k) ?_
  refine gs (mkF m 32 _ [(.int (2 : Int32)), (.int (0 : Int32)), (.int (64 : Int32)), (.ref a1)]) (fun T A t k => XS.iloadN A B.x rfl (B.d d26_31) rfl k) ?_
  refine g_metN (c_static B (hw _ (List.mem_of_getElem? (i := 115) rfl)) (hw _ (List.mem_of_getElem? (i := 116) rfl)) (hw _ (List.mem_of_getElem? (i := 76) rfl)) (hw _ (List.mem_of_getElem? (i := 117) rfl)) (by decide) rfl (lenOf pd_285bBIII29I rfl) rfl (Nat.le_of_eq rfl) d26_32 rfl (argsL := [(.ref a1), (.int (64 : Int32)), (.int (0 : Int32)), (.int (2 : Int32))]) (rest := []) (W := 0) (q := 35)) (n_u_indexOfChar_64_2 l Z a0 hw hEL a1 zc rv kb c0 c1 h0 n0 PA hr0 hr1 PX PO) (hw _ (List.mem_of_getElem? (i := 117) rfl)) (hw _ (List.mem_of_getElem? (i := 76) rfl)) (by decide) (by decide) (by decide) (by decide) ?_
  intro v23 h23 hz23 hQ23
  obtain ⟨rfl, rfl⟩ := hQ23
  exact g_retI B d26_35 (by decide) (by decide) ⟨rfl, rfl⟩
set_option maxRecDepth 65536 in
set_option maxHeartbeats 40000000 in
theorem n_idx2_64_2 (l : Launch) (Z : State) (a0 : Array Value) (hw : ∀ d ∈ tables_1, d.before a0 Z = true) (hEL : EW Z a0 []) (a1 : Addr) (zc : Int32) (rv : Value) (t : Addr) (c0 c1 : Int32) (h0 : Heap) (n0 : Nat) (PS : Str Z h0 a1 t [c0, c1]) (PX : Sts Z zc rv) (PO : Old Z n0 h0) :
    Met false Z [] l (⟨"java/lang/String", "indexOf", "(II)I"⟩ : MethodName) jdk_42_method_80_code 3 (some .int) ({ frames := 5, cells := 0, slots := 0, locals := 73 } : Room) #[(.ref a1), (.int (64 : Int32)), (.int (0 : Int32))] h0 [] n0 (fun v h => v = some (.int (if c0 = (64 : Int32) then (0 : Int32) else (if c1 = (64 : Int32) then (1 : Int32) else (-1 : Int32)))) ∧ h0 = h) := by
  refine Met.of (a0 := a0) (Ls := #[.val (.ref a1), .val (.int (64 : Int32)), .val (.int (0 : Int32))]) (fun z => rfl) (plainFor_of_name pn_java_lang_String) hEL (fun m => by first | (simp [entryFrame, mkF, argsToLocals, Value.category]; done) | rfl) ?_
  intro p e s m below meth c B hSf
  obtain ⟨SC, hzc, SA, SH, SL, SF, rf⟩ := id PX
  obtain ⟨PE, PV, cd, N2, vs, kb, PC, PA0, hcod, hb, -⟩ := PS
  have hr0 : rng c0 := hb _ (by simp)
  have hr1 : rng c1 := hb _ (by simp)
  rcases hcod with ⟨rfl, rfl, rfl, hlat⟩ | ⟨rfl, rfl, rfl, hwd⟩
  · have PA : Arv Z h0 t kb .byte (2 : Int32) [(.int (StrChars.lo8 c0)), (.int (StrChars.lo8 c1))] (.int (0 : Int32)) := PA0
    have hl0 : ¬ (255 : Int32) < c0 := hlat _ (by simp)
    have hl1 : ¬ (255 : Int32) < c1 := hlat _ (by simp)
    refine gs (mkF m 1 _ [(.ref a1)]) (fun T A t k => XS.aloadN A B.x rfl (B.d d7_0) rfl rfl k) ?_
    refine g_metN (c_virt B PE (hw _ (List.mem_of_getElem? (i := 41) rfl)) (hw _ (List.mem_of_getElem? (i := 42) rfl)) (hw _ (List.mem_of_getElem? (i := 44) rfl)) (hw _ (List.mem_of_getElem? (i := 43) rfl)) (nfs (z := (⟨"java/lang/String", "isLatin1", "()Z"⟩ : MethodName)) (hw _ (List.mem_of_getElem? (i := 44) rfl))) (by decide) rfl (lenOf pd_2829Z rfl) rfl (Nat.le_of_eq rfl) d7_1 rfl (argsL := []) (rest := []) (W := 0) (q := 4)) (n_isLatin1_0 l Z a0 hw hEL a1 zc rv h0 n0 PE PC PX PO) (hw _ (List.mem_of_getElem? (i := 45) rfl)) (hw _ (List.mem_of_getElem? (i := 7) rfl)) (by decide) (by decide) (by decide) (by decide) ?_
    intro v21 h21 hz21 hQ21
    obtain ⟨rfl, rfl⟩ := hQ21
    refine gs (mkF m 7 _ []) (fun T A t k => XS.ifNo A B.x rfl (B.d d7_4) rfl ((if0 _ _).trans (feq (by decide : ¬ ((1 : Int32) = (0 : Int32)))).1) k) ?_
    refine gs (mkF m 8 _ [(.ref a1)]) (fun T A t k => XS.aloadN A B.x rfl (B.d d7_7) rfl rfl k) ?_
    refine g_getF B (hw _ (List.mem_of_getElem? (i := 25) rfl)) Via.refl PV d7_8 (q := 11) rfl ?_
    refine gs (mkF m 12 _ [(.int (64 : Int32)), (.ref t)]) (fun T A t k => XS.iloadN A B.x rfl (B.d d7_11) rfl k) ?_
    refine gs (mkF m 13 _ [(.int (0 : Int32)), (.int (64 : Int32)), (.ref t)]) (fun T A t k => XS.iloadN A B.x rfl (B.d d7_12) rfl k) ?_
    refine gs (mkF m 14 _ [(.ref a1), (.int (0 : Int32)), (.int (64 : Int32)), (.ref t)]) (fun T A t k => XS.aloadN A B.x rfl (B.d d7_13) rfl rfl k) ?_
    refine g_metN (c_virt B PE (hw _ (List.mem_of_getElem? (i := 47) rfl)) (hw _ (List.mem_of_getElem? (i := 48) rfl)) (hw _ (List.mem_of_getElem? (i := 50) rfl)) (hw _ (List.mem_of_getElem? (i := 49) rfl)) (nfs (z := (⟨"java/lang/String", "length", "()I"⟩ : MethodName)) (hw _ (List.mem_of_getElem? (i := 50) rfl))) (by decide) rfl (lenOf pd_2829I rfl) rfl (Nat.le_of_eq rfl) d7_14 rfl (argsL := []) (rest := [(.int (0 : Int32)), (.int (64 : Int32)), (.ref t)]) (W := 3) (q := 17)) (n_length_2_0 l Z a0 hw hEL a1 zc rv t kb c0 c1 h0 n0 PE PC PV PA PX PO) (hw _ (List.mem_of_getElem? (i := 51) rfl)) (hw _ (List.mem_of_getElem? (i := 7) rfl)) (by decide) (by decide) (by decide) (by decide) ?_
    intro v22 h22 hz22 hQ22
    obtain ⟨rfl, rfl⟩ := hQ22
    refine g_metN (c_static B (hw _ (List.mem_of_getElem? (i := 57) rfl)) (hw _ (List.mem_of_getElem? (i := 58) rfl)) (hw _ (List.mem_of_getElem? (i := 59) rfl)) (hw _ (List.mem_of_getElem? (i := 60) rfl)) (by decide) rfl (lenOf pd_285bBIII29I rfl) rfl (Nat.le_of_eq rfl) d7_17 rfl (argsL := [(.ref t), (.int (64 : Int32)), (.int (0 : Int32)), (.int (2 : Int32))]) (rest := []) (W := 0) (q := 20)) (n_l_indexOf_64_2 l Z a0 hw hEL t zc rv kb c0 c1 h0 n0 PA hr0 hr1 hl0 hl1 PX PO) (hw _ (List.mem_of_getElem? (i := 60) rfl)) (hw _ (List.mem_of_getElem? (i := 59) rfl)) (by decide) (by decide) (by decide) (by decide) ?_
    intro v23 h23 hz23 hQ23
    obtain ⟨rfl, rfl⟩ := hQ23
    refine gs (mkF m 36 _ [(.int (if c0 = (64 : Int32) then (0 : Int32) else (if c1 = (64 : Int32) then (1 : Int32) else (-1 : Int32))))]) (fun T A t k => XS.goto A B.x rfl (pc0 := 20) (pc' := 36) rfl (B.d d7_20) (by decide) (by decide) k) ?_
    exact g_retI B d7_36 (by decide) (by decide) ⟨rfl, rfl⟩
  · have PA : Arv Z h0 t kb .byte (4 : Int32) [(.int (StrChars.lo8 c0)), (.int (StrChars.hi8 c0)), (.int (StrChars.lo8 c1)), (.int (StrChars.hi8 c1))] (.int (0 : Int32)) := PA0
    refine gs (mkF m 1 _ [(.ref a1)]) (fun T A t k => XS.aloadN A B.x rfl (B.d d7_0) rfl rfl k) ?_
    refine g_metN (c_virt B PE (hw _ (List.mem_of_getElem? (i := 41) rfl)) (hw _ (List.mem_of_getElem? (i := 42) rfl)) (hw _ (List.mem_of_getElem? (i := 44) rfl)) (hw _ (List.mem_of_getElem? (i := 43) rfl)) (nfs (z := (⟨"java/lang/String", "isLatin1", "()Z"⟩ : MethodName)) (hw _ (List.mem_of_getElem? (i := 44) rfl))) (by decide) rfl (lenOf pd_2829Z rfl) rfl (Nat.le_of_eq rfl) d7_1 rfl (argsL := []) (rest := []) (W := 0) (q := 4)) (n_isLatin1_1 l Z a0 hw hEL a1 zc rv h0 n0 PE PC PX PO) (hw _ (List.mem_of_getElem? (i := 45) rfl)) (hw _ (List.mem_of_getElem? (i := 7) rfl)) (by decide) (by decide) (by decide) (by decide) ?_
    intro v24 h24 hz24 hQ24
    obtain ⟨rfl, rfl⟩ := hQ24
    refine gs (mkF m 23 _ []) (fun T A t k => XS.ifYes A B.x rfl (pc0 := 4) (pc' := 23) rfl (B.d d7_4) rfl ((if0 _ _).trans (teq (by decide : (0 : Int32) = (0 : Int32))).1) (by decide) (by decide) k) ?_
    refine gs (mkF m 24 _ [(.ref a1)]) (fun T A t k => XS.aloadN A B.x rfl (B.d d7_23) rfl rfl k) ?_
    refine g_getF B (hw _ (List.mem_of_getElem? (i := 25) rfl)) Via.refl PV d7_24 (q := 27) rfl ?_
    refine gs (mkF m 28 _ [(.int (64 : Int32)), (.ref t)]) (fun T A t k => XS.iloadN A B.x rfl (B.d d7_27) rfl k) ?_
    refine gs (mkF m 29 _ [(.int (0 : Int32)), (.int (64 : Int32)), (.ref t)]) (fun T A t k => XS.iloadN A B.x rfl (B.d d7_28) rfl k) ?_
    refine gs (mkF m 30 _ [(.ref a1), (.int (0 : Int32)), (.int (64 : Int32)), (.ref t)]) (fun T A t k => XS.aloadN A B.x rfl (B.d d7_29) rfl rfl k) ?_
    refine g_metN (c_virt B PE (hw _ (List.mem_of_getElem? (i := 47) rfl)) (hw _ (List.mem_of_getElem? (i := 48) rfl)) (hw _ (List.mem_of_getElem? (i := 50) rfl)) (hw _ (List.mem_of_getElem? (i := 49) rfl)) (nfs (z := (⟨"java/lang/String", "length", "()I"⟩ : MethodName)) (hw _ (List.mem_of_getElem? (i := 50) rfl))) (by decide) rfl (lenOf pd_2829I rfl) rfl (Nat.le_of_eq rfl) d7_30 rfl (argsL := []) (rest := [(.int (0 : Int32)), (.int (64 : Int32)), (.ref t)]) (W := 3) (q := 33)) (n_length_4_1 l Z a0 hw hEL a1 zc rv t kb c0 c1 h0 n0 PE PC PV PA PX PO) (hw _ (List.mem_of_getElem? (i := 51) rfl)) (hw _ (List.mem_of_getElem? (i := 7) rfl)) (by decide) (by decide) (by decide) (by decide) ?_
    intro v25 h25 hz25 hQ25
    obtain ⟨rfl, rfl⟩ := hQ25
    refine g_metN (c_static B (hw _ (List.mem_of_getElem? (i := 109) rfl)) (hw _ (List.mem_of_getElem? (i := 110) rfl)) (hw _ (List.mem_of_getElem? (i := 76) rfl)) (hw _ (List.mem_of_getElem? (i := 111) rfl)) (by decide) rfl (lenOf pd_285bBIII29I rfl) rfl (Nat.le_of_eq rfl) d7_33 rfl (argsL := [(.ref t), (.int (64 : Int32)), (.int (0 : Int32)), (.int (2 : Int32))]) (rest := []) (W := 0) (q := 36)) (n_u_indexOf_64_2 l Z a0 hw hEL t zc rv kb c0 c1 h0 n0 PA hr0 hr1 PX PO) (hw _ (List.mem_of_getElem? (i := 111) rfl)) (hw _ (List.mem_of_getElem? (i := 76) rfl)) (by decide) (by decide) (by decide) (by decide) ?_
    intro v26 h26 hz26 hQ26
    obtain ⟨rfl, rfl⟩ := hQ26
    exact g_retI B d7_36 (by decide) (by decide) ⟨rfl, rfl⟩
set_option maxRecDepth 65536 in
set_option maxHeartbeats 40000000 in
theorem n_idx1_64_2 (l : Launch) (Z : State) (a0 : Array Value) (hw : ∀ d ∈ tables_1, d.before a0 Z = true) (hEL : EW Z a0 []) (a1 : Addr) (zc : Int32) (rv : Value) (t : Addr) (c0 c1 : Int32) (h0 : Heap) (n0 : Nat) (PS : Str Z h0 a1 t [c0, c1]) (PX : Sts Z zc rv) (PO : Old Z n0 h0) :
    Met false Z [] l (⟨"java/lang/String", "indexOf", "(I)I"⟩ : MethodName) jdk_42_method_79_code 2 (some .int) ({ frames := 6, cells := 0, slots := 0, locals := 87 } : Room) #[(.ref a1), (.int (64 : Int32))] h0 [] n0 (fun v h => v = some (.int (if c0 = (64 : Int32) then (0 : Int32) else (if c1 = (64 : Int32) then (1 : Int32) else (-1 : Int32)))) ∧ h0 = h) := by
  refine Met.of (a0 := a0) (Ls := #[.val (.ref a1), .val (.int (64 : Int32))]) (fun z => rfl) (plainFor_of_name pn_java_lang_String) hEL (fun m => by first | (simp [entryFrame, mkF, argsToLocals, Value.category]; done) | rfl) ?_
  intro p e s m below meth c B hSf
  obtain ⟨SC, hzc, SA, SH, SL, SF, rf⟩ := id PX
  refine gs (mkF m 1 _ [(.ref a1)]) (fun T A t k => XS.aloadN A B.x rfl (B.d d6_0) rfl rfl k) ?_
  refine gs (mkF m 2 _ [(.int (64 : Int32)), (.ref a1)]) (fun T A t k => XS.iloadN A B.x rfl (B.d d6_1) rfl k) ?_
  refine gs (mkF m 3 _ [(.int (0 : Int32)), (.int (64 : Int32)), (.ref a1)]) (fun T A t k => XS.iconst A B.x rfl (B.d d6_2) k) ?_
  refine g_metN (c_virt B PS.exa (hw _ (List.mem_of_getElem? (i := 36) rfl)) (hw _ (List.mem_of_getElem? (i := 37) rfl)) (hw _ (List.mem_of_getElem? (i := 39) rfl)) (hw _ (List.mem_of_getElem? (i := 38) rfl)) (nfs (z := (⟨"java/lang/String", "indexOf", "(II)I"⟩ : MethodName)) (hw _ (List.mem_of_getElem? (i := 39) rfl))) (by decide) rfl (lenOf pd_28II29I rfl) rfl (Nat.le_of_eq rfl) d6_3 rfl (argsL := [(.int (64 : Int32)), (.int (0 : Int32))]) (rest := []) (W := 0) (q := 6)) (n_idx2_64_2 l Z a0 hw hEL a1 zc rv t c0 c1 h0 n0 PS PX PO) (hw _ (List.mem_of_getElem? (i := 40) rfl)) (hw _ (List.mem_of_getElem? (i := 7) rfl)) (by decide) (by decide) (by decide) (by decide) ?_
  intro v21 h21 hz21 hQ21
  obtain ⟨rfl, rfl⟩ := hQ21
  exact g_retI B d6_6 (by decide) (by decide) ⟨rfl, rfl⟩
set_option maxRecDepth 65536 in
set_option maxHeartbeats 40000000 in
theorem n_isPrincipal_2 (l : Launch) (Z : State) (a0 : Array Value) (hw : ∀ d ∈ tables_1, d.before a0 Z = true) (hEL : EW Z a0 []) (a1 : Addr) (zc : Int32) (rv : Value) (t : Addr) (c0 c1 : Int32) (h0 : Heap) (n0 : Nat) (PS : Str Z h0 a1 t [c0, c1]) (PX : Sts Z zc rv) (PO : Old Z n0 h0) :
    Met false Z [] l (⟨"com/example/multi_domain_access/multidomainaccess/Names", "isPrincipal", "(Ljava/lang/String;)Z"⟩ : MethodName) prog_11_method_5_code 1 (some .boolean) ({ frames := 7, cells := 0, slots := 0, locals := 100 } : Room) #[(.ref a1)] h0 [] n0 (fun v h => v = some (.int (prin [c0, c1])) ∧ h0 = h) := by
  refine Met.of (a0 := a0) (Ls := #[.val (.ref a1)]) (fun z => rfl) (plainFor_of_name pn_com_example_multi_domain_access_multidomainaccess_Names) hEL (fun m => by first | (simp [entryFrame, mkF, argsToLocals, Value.category]; done) | rfl) ?_
  intro p e s m below meth c B hSf
  obtain ⟨SC, hzc, SA, SH, SL, SF, rf⟩ := id PX
  refine gs (mkF m 1 _ [(.ref a1)]) (fun T A t k => XS.aloadN A B.x rfl (B.d d15_0) rfl rfl k) ?_
  refine gs (mkF m 3 _ [(.int (64 : Int32)), (.ref a1)]) (fun T A t k => XS.bipush A B.x rfl (B.d d15_1) k) ?_
  refine g_metN (c_virt B PS.exa (hw _ (List.mem_of_getElem? (i := 31) rfl)) (hw _ (List.mem_of_getElem? (i := 32) rfl)) (hw _ (List.mem_of_getElem? (i := 34) rfl)) (hw _ (List.mem_of_getElem? (i := 33) rfl)) (nfs (z := (⟨"java/lang/String", "indexOf", "(I)I"⟩ : MethodName)) (hw _ (List.mem_of_getElem? (i := 34) rfl))) (by decide) rfl (lenOf pd_28I29I rfl) rfl (Nat.le_of_eq rfl) d15_3 rfl (argsL := [(.int (64 : Int32))]) (rest := []) (W := 0) (q := 6)) (n_idx1_64_2 l Z a0 hw hEL a1 zc rv t c0 c1 h0 n0 PS PX PO) (hw _ (List.mem_of_getElem? (i := 35) rfl)) (hw _ (List.mem_of_getElem? (i := 7) rfl)) (by decide) (by decide) (by decide) (by decide) ?_
  intro v21 h21 hz21 hQ21
  obtain ⟨rfl, rfl⟩ := hQ21
  by_cases hE0 : c0 = (64 : Int32)
  · rw [if_pos hE0]
    refine gs (mkF m 9 _ []) (fun T A t k => XS.ifNo A B.x rfl (B.d d15_6) rfl ((if0 _ _).trans (flt (by decide : ¬ ((0 : Int32) < (0 : Int32)))).1) k) ?_
    refine gs (mkF m 10 _ [(.int (1 : Int32))]) (fun T A t k => XS.iconst A B.x rfl (B.d d15_9) k) ?_
    refine gs (mkF m 14 _ [(.int (1 : Int32))]) (fun T A t k => XS.goto A B.x rfl (pc0 := 10) (pc' := 14) rfl (B.d d15_10) (by decide) (by decide) k) ?_
    exact g_retN (t := .boolean) B (by simp) d15_14 (by decide) (by decide) ⟨by show some (Value.int (1 : Int32)) = _; simp [prin, hE0], rfl⟩
  · by_cases hE1 : c1 = (64 : Int32)
    · rw [if_neg hE0, if_pos hE1]
      refine gs (mkF m 9 _ []) (fun T A t k => XS.ifNo A B.x rfl (B.d d15_6) rfl ((if0 _ _).trans (flt (by decide : ¬ ((1 : Int32) < (0 : Int32)))).1) k) ?_
      refine gs (mkF m 10 _ [(.int (1 : Int32))]) (fun T A t k => XS.iconst A B.x rfl (B.d d15_9) k) ?_
      refine gs (mkF m 14 _ [(.int (1 : Int32))]) (fun T A t k => XS.goto A B.x rfl (pc0 := 10) (pc' := 14) rfl (B.d d15_10) (by decide) (by decide) k) ?_
      exact g_retN (t := .boolean) B (by simp) d15_14 (by decide) (by decide) ⟨by show some (Value.int (1 : Int32)) = _; simp [prin, hE0, hE1], rfl⟩
    · rw [if_neg hE0, if_neg hE1]
      refine gs (mkF m 13 _ []) (fun T A t k => XS.ifYes A B.x rfl (pc0 := 6) (pc' := 13) rfl (B.d d15_6) rfl ((if0 _ _).trans (tlt (by decide : (-1 : Int32) < (0 : Int32))).1) (by decide) (by decide) k) ?_
      refine gs (mkF m 14 _ [(.int (0 : Int32))]) (fun T A t k => XS.iconst A B.x rfl (B.d d15_13) k) ?_
      exact g_retN (t := .boolean) B (by simp) d15_14 (by decide) (by decide) ⟨by show some (Value.int (0 : Int32)) = _; simp [prin, hE0, hE1], rfl⟩
set_option maxRecDepth 65536 in
set_option maxHeartbeats 40000000 in
theorem n_isLocalName_2 (l : Launch) (Z : State) (a0 : Array Value) (hw : ∀ d ∈ tables_1, d.before a0 Z = true) (hEL : EW Z a0 []) (a1 : Addr) (zc : Int32) (rv : Value) (t : Addr) (c0 c1 : Int32) (h0 : Heap) (n0 : Nat) (PS : Str Z h0 a1 t [c0, c1]) (PX : Sts Z zc rv) (PO : Old Z n0 h0) :
    Met false Z [] l (⟨"com/example/multi_domain_access/multidomainaccess/Names", "isLocalName", "(Ljava/lang/String;)Z"⟩ : MethodName) prog_11_method_7_code 1 (some .boolean) ({ frames := 8, cells := 0, slots := 0, locals := 112 } : Room) #[(.ref a1)] h0 [] n0 (fun v h => v = some (.int (loc [c0, c1])) ∧ h0 = h) := by
  refine Met.of (a0 := a0) (Ls := #[.val (.ref a1)]) (fun z => rfl) (plainFor_of_name pn_com_example_multi_domain_access_multidomainaccess_Names) hEL (fun m => by first | (simp [entryFrame, mkF, argsToLocals, Value.category]; done) | rfl) ?_
  intro p e s m below meth c B hSf
  obtain ⟨SC, hzc, SA, SH, SL, SF, rf⟩ := id PX
  refine gs (mkF m 1 _ [(.ref a1)]) (fun T A t k => XS.aloadN A B.x rfl (B.d d5_0) rfl rfl k) ?_
  refine gs (mkF m 3 _ [(.int (46 : Int32)), (.ref a1)]) (fun T A t k => XS.bipush A B.x rfl (B.d d5_1) k) ?_
  refine g_metN (c_virt B PS.exa (hw _ (List.mem_of_getElem? (i := 31) rfl)) (hw _ (List.mem_of_getElem? (i := 32) rfl)) (hw _ (List.mem_of_getElem? (i := 34) rfl)) (hw _ (List.mem_of_getElem? (i := 33) rfl)) (nfs (z := (⟨"java/lang/String", "indexOf", "(I)I"⟩ : MethodName)) (hw _ (List.mem_of_getElem? (i := 34) rfl))) (by decide) rfl (lenOf pd_28I29I rfl) rfl (Nat.le_of_eq rfl) d5_3 rfl (argsL := [(.int (46 : Int32))]) (rest := []) (W := 0) (q := 6)) (n_idx1_46_2 l Z a0 hw hEL a1 zc rv t c0 c1 h0 n0 PS PX PO) (hw _ (List.mem_of_getElem? (i := 35) rfl)) (hw _ (List.mem_of_getElem? (i := 7) rfl)) (by decide) (by decide) (by decide) (by decide) ?_
  intro v21 h21 hz21 hQ21
  obtain ⟨rfl, rfl⟩ := hQ21
  by_cases hE0 : c0 = (46 : Int32)
  · rw [if_pos hE0]
    refine gs (mkF m 20 _ []) (fun T A t k => XS.ifYes A B.x rfl (pc0 := 6) (pc' := 20) rfl (B.d d5_6) rfl ((if0 _ _).trans (flt (by decide : ¬ ((0 : Int32) < (0 : Int32)))).2.1) (by decide) (by decide) k) ?_
    refine gs (mkF m 21 _ [(.int (0 : Int32))]) (fun T A t k => XS.iconst A B.x rfl (B.d d5_20) k) ?_
    exact g_retN (t := .boolean) B (by simp) d5_21 (by decide) (by decide) ⟨by show some (Value.int (0 : Int32)) = _; simp [loc, hE0], rfl⟩
  · by_cases hE1 : c1 = (46 : Int32)
    · rw [if_neg hE0, if_pos hE1]
      refine gs (mkF m 20 _ []) (fun T A t k => XS.ifYes A B.x rfl (pc0 := 6) (pc' := 20) rfl (B.d d5_6) rfl ((if0 _ _).trans (flt (by decide : ¬ ((1 : Int32) < (0 : Int32)))).2.1) (by decide) (by decide) k) ?_
      refine gs (mkF m 21 _ [(.int (0 : Int32))]) (fun T A t k => XS.iconst A B.x rfl (B.d d5_20) k) ?_
      exact g_retN (t := .boolean) B (by simp) d5_21 (by decide) (by decide) ⟨by show some (Value.int (0 : Int32)) = _; simp [loc, hE0, hE1], rfl⟩
    · rw [if_neg hE0, if_neg hE1]
      refine gs (mkF m 9 _ []) (fun T A t k => XS.ifNo A B.x rfl (B.d d5_6) rfl ((if0 _ _).trans (tlt (by decide : (-1 : Int32) < (0 : Int32))).2.1) k) ?_
      refine gs (mkF m 10 _ [(.ref a1)]) (fun T A t k => XS.aloadN A B.x rfl (B.d d5_9) rfl rfl k) ?_
      refine g_metN (c_static B (hw _ (List.mem_of_getElem? (i := 71) rfl)) (hw _ (List.mem_of_getElem? (i := 72) rfl)) (hw _ (List.mem_of_getElem? (i := 29) rfl)) (hw _ (List.mem_of_getElem? (i := 73) rfl)) (by decide) rfl (lenOf pd_28Ljava2flang2fString3b29Z rfl) rfl (Nat.le_of_eq rfl) d5_10 rfl (argsL := [(.ref a1)]) (rest := []) (W := 0) (q := 13)) (n_isPrincipal_2 l Z a0 hw hEL a1 zc rv t c0 c1 h0 n0 PS PX PO) (hw _ (List.mem_of_getElem? (i := 73) rfl)) (hw _ (List.mem_of_getElem? (i := 29) rfl)) (by decide) (by decide) (by decide) (by decide) ?_
      intro v22 h22 hz22 hQ22
      obtain ⟨rfl, rfl⟩ := hQ22
      by_cases hF0 : c0 = (64 : Int32)
      · rw [show prin [c0, c1] = (1 : Int32) by simp [prin, hF0]]
        refine gs (mkF m 20 _ []) (fun T A t k => XS.ifYes A B.x rfl (pc0 := 13) (pc' := 20) rfl (B.d d5_13) rfl ((if0 _ _).trans (feq (by decide : ¬ ((1 : Int32) = (0 : Int32)))).2) (by decide) (by decide) k) ?_
        refine gs (mkF m 21 _ [(.int (0 : Int32))]) (fun T A t k => XS.iconst A B.x rfl (B.d d5_20) k) ?_
        exact g_retN (t := .boolean) B (by simp) d5_21 (by decide) (by decide) ⟨by show some (Value.int (0 : Int32)) = _; simp [loc, hE0, hE1, hF0], rfl⟩
      · by_cases hF1 : c1 = (64 : Int32)
        · rw [show prin [c0, c1] = (1 : Int32) by simp [prin, hF0, hF1]]
          refine gs (mkF m 20 _ []) (fun T A t k => XS.ifYes A B.x rfl (pc0 := 13) (pc' := 20) rfl (B.d d5_13) rfl ((if0 _ _).trans (feq (by decide : ¬ ((1 : Int32) = (0 : Int32)))).2) (by decide) (by decide) k) ?_
          refine gs (mkF m 21 _ [(.int (0 : Int32))]) (fun T A t k => XS.iconst A B.x rfl (B.d d5_20) k) ?_
          exact g_retN (t := .boolean) B (by simp) d5_21 (by decide) (by decide) ⟨by show some (Value.int (0 : Int32)) = _; simp [loc, hE0, hE1, hF0, hF1], rfl⟩
        · rw [show prin [c0, c1] = (0 : Int32) by simp [prin, hF0, hF1]]
          refine gs (mkF m 16 _ []) (fun T A t k => XS.ifNo A B.x rfl (B.d d5_13) rfl ((if0 _ _).trans (teq (by decide : (0 : Int32) = (0 : Int32))).2) k) ?_
          refine gs (mkF m 17 _ [(.int (1 : Int32))]) (fun T A t k => XS.iconst A B.x rfl (B.d d5_16) k) ?_
          refine gs (mkF m 21 _ [(.int (1 : Int32))]) (fun T A t k => XS.goto A B.x rfl (pc0 := 17) (pc' := 21) rfl (B.d d5_17) (by decide) (by decide) k) ?_
          exact g_retN (t := .boolean) B (by simp) d5_21 (by decide) (by decide) ⟨by show some (Value.int (1 : Int32)) = _; simp [loc, hE0, hE1, hF0, hF1], rfl⟩
set_option maxRecDepth 65536 in
set_option maxHeartbeats 40000000 in
theorem n_comp5_3_0 (l : Launch) (Z : State) (a0 : Array Value) (hw : ∀ d ∈ tables_1, d.before a0 Z = true) (hEL : EW Z a0 []) (a1 : Addr) (a2 : Addr) (kc kb : ClassId) (c0 c1 c2 : Int32) (h0 : Heap) (n0 : Nat) (PA : Arv Z h0 a1 kc .char (3 : Int32) [(.int c0), (.int c1), (.int c2)] (.int (0 : Int32))) (PB : Arv Z h0 a2 kb .byte (3 : Int32) [(.int (0 : Int32)), (.int (0 : Int32)), (.int (0 : Int32))] (.int (0 : Int32))) (hd : @LE.le Nat _ n0 a2) (hne : @Ne Nat a1 a2)  (hg : (255 : Int32) < c0) :
    Met false Z [] l (⟨"java/lang/StringUTF16", "compress", "([CI[BII)I"⟩ : MethodName) jdk_52_method_21_code 7 (some .int) ({ frames := 0, cells := 0, slots := 0, locals := 0 } : Room) #[(.ref a1), (.int (0 : Int32)), (.ref a2), (.int (0 : Int32)), (.int (3 : Int32))] h0 [] n0 (fun v h => v = some (.int (0 : Int32)) ∧ Keep h0 h [a2]) := by
  refine Met.of (a0 := a0) (Ls := #[.val (.ref a1), .val (.int (0 : Int32)), .val (.ref a2), .val (.int (0 : Int32)), .val (.int (3 : Int32)), .unset, .unset]) (fun z => rfl) (plainFor_of_name pn_java_lang_StringUTF16) hEL (fun m => by first | (simp [entryFrame, mkF, argsToLocals, Value.category]; done) | rfl) ?_
  intro p e s m below meth c B hSf
  refine gs (mkF m 1 _ [(.int (0 : Int32))]) (fun T A t k => XS.iconst A B.x rfl (B.d d17_0) k) ?_
  refine gs (mkF m 3 #[.val (.ref a1), .val (.int (0 : Int32)), .val (.ref a2), .val (.int (0 : Int32)), .val (.int (3 : Int32)), .val (.int (0 : Int32)), .unset] []) (fun T A t k => XS.istore A B.x rfl (B.d d17_1) rfl (l' := #[.val (.ref a1), .val (.int (0 : Int32)), .val (.ref a2), .val (.int (0 : Int32)), .val (.int (3 : Int32)), .val (.int (0 : Int32)), .unset]) rfl k) ?_
  refine gs (mkF m 5 _ [(.int (0 : Int32))]) (fun T A t k => XS.iload A B.x rfl (B.d d17_3) rfl k) ?_
  refine gs (mkF m 7 _ [(.int (3 : Int32)), (.int (0 : Int32))]) (fun T A t k => XS.iload A B.x rfl (B.d d17_5) rfl k) ?_
  refine gs (mkF m 10 _ []) (fun T A t k => XS.icmpNo A B.x rfl (B.d d17_7) rfl (tlt (by decide : (0 : Int32) < (3 : Int32))).2.1 k) ?_
  refine gs (mkF m 11 _ [(.ref a1)]) (fun T A t k => XS.aloadN A B.x rfl (B.d d17_10) rfl rfl k) ?_
  refine gs (mkF m 12 _ [(.int (0 : Int32)), (.ref a1)]) (fun T A t k => XS.iloadN A B.x rfl (B.d d17_11) rfl k) ?_
  refine g_ldC B PA ⟨by decide, by decide⟩ (v := (.int c0)) rfl d17_12 (q := 13) rfl ?_
  refine gs (mkF m 15 #[.val (.ref a1), .val (.int (0 : Int32)), .val (.ref a2), .val (.int (0 : Int32)), .val (.int (3 : Int32)), .val (.int (0 : Int32)), .val (.int c0)] []) (fun T A t k => XS.istore A B.x rfl (B.d d17_13) rfl (l' := #[.val (.ref a1), .val (.int (0 : Int32)), .val (.ref a2), .val (.int (0 : Int32)), .val (.int (3 : Int32)), .val (.int (0 : Int32)), .val (.int c0)]) rfl k) ?_
  refine gs (mkF m 17 _ [(.int c0)]) (fun T A t k => XS.iload A B.x rfl (B.d d17_15) rfl k) ?_
  refine gs (mkF m 20 _ [(.int (255 : Int32)), (.int c0)]) (fun T A t k => XS.sipush A B.x rfl (B.d d17_17) k) ?_
  refine gs (mkF m 23 _ []) (fun T A t k => XS.icmpNo A B.x rfl (B.d d17_20) rfl (tlt (hg : (255 : Int32) < c0)).2.2.2 k) ?_
  refine gs (mkF m 25 _ [(.int (0 : Int32))]) (fun T A t k => XS.iload A B.x rfl (B.d d17_23) rfl k) ?_
  exact g_retI B d17_25 (by decide) (by decide) ⟨rfl, (Keep.refl h0 [a2])⟩
set_option maxRecDepth 65536 in
set_option maxHeartbeats 40000000 in
theorem n_nbl_3 (l : Launch) (Z : State) (a0 : Array Value) (hw : ∀ d ∈ tables_1, d.before a0 Z = true) (hEL : EW Z a0 [])   (h0 : Heap) (n0 : Nat)  :
    Met false Z [] l (⟨"java/lang/StringUTF16", "newBytesLength", "(I)I"⟩ : MethodName) jdk_52_method_3_code 1 (some .int) ({ frames := 0, cells := 0, slots := 0, locals := 0 } : Room) #[(.int (3 : Int32))] h0 [] n0 (fun v h => v = some (.int (6 : Int32)) ∧ h0 = h) := by
  refine Met.of (a0 := a0) (Ls := #[.val (.int (3 : Int32))]) (fun z => rfl) (plainFor_of_name pn_java_lang_StringUTF16) hEL (fun m => by first | (simp [entryFrame, mkF, argsToLocals, Value.category]; done) | rfl) ?_
  intro p e s m below meth c B hSf
  refine gs (mkF m 1 _ [(.int (3 : Int32))]) (fun T A t k => XS.iloadN A B.x rfl (B.d d23_0) rfl k) ?_
  refine gs (mkF m 12 _ []) (fun T A t k => XS.ifYes A B.x rfl (pc0 := 1) (pc' := 12) rfl (B.d d23_1) rfl ((if0 _ _).trans (flt (by decide : ¬ ((3 : Int32) < (0 : Int32)))).2.1) (by decide) (by decide) k) ?_
  refine gs (mkF m 13 _ [(.int (3 : Int32))]) (fun T A t k => XS.iloadN A B.x rfl (B.d d23_12) rfl k) ?_
  refine g_ldcI B (hw _ (List.mem_of_getElem? (i := 99) rfl)) d23_13 (q := 15) rfl ?_
  refine gs (mkF m 55 _ []) (fun T A t k => XS.icmpYes A B.x rfl (pc0 := 15) (pc' := 55) rfl (B.d d23_15) rfl (tlt (by decide : (3 : Int32) < (1073741823 : Int32))).1 (by decide) (by decide) k) ?_
  refine gs (mkF m 56 _ [(.int (3 : Int32))]) (fun T A t k => XS.iloadN A B.x rfl (B.d d23_55) rfl k) ?_
  refine gs (mkF m 57 _ [(.int (1 : Int32)), (.int (3 : Int32))]) (fun T A t k => XS.iconst A B.x rfl (B.d d23_56) k) ?_
  refine gs (mkF m 58 _ [(.int (6 : Int32))]) (fun T A t k => XS.ishl A B.x rfl (B.d d23_57) rfl k) ?_
  exact g_retI B d23_58 (by decide) (by decide) ⟨rfl, rfl⟩
set_option maxRecDepth 65536 in
set_option maxHeartbeats 40000000 in
theorem n_nbf_3 (l : Launch) (Z : State) (a0 : Array Value) (hw : ∀ d ∈ tables_1, d.before a0 Z = true) (hEL : EW Z a0 [])   (h0 : Heap) (n0 : Nat)  :
    Met false Z [] l (⟨"java/lang/StringUTF16", "newBytesFor", "(I)[B"⟩ : MethodName) jdk_52_method_2_code 1 (some (.array .byte)) ({ frames := 1, cells := 1, slots := 6, locals := 12 } : Room) #[(.int (3 : Int32))] h0 [] n0 (fun v h => ∃ (x : Addr) (kb : ClassId), v = some (.ref x) ∧ Keep h0 h [] ∧ @LE.le Nat _ h0.size x ∧ Arv Z h x kb .byte (6 : Int32) [(.int (0 : Int32)), (.int (0 : Int32)), (.int (0 : Int32)), (.int (0 : Int32)), (.int (0 : Int32)), (.int (0 : Int32))] (.int (0 : Int32))) := by
  refine Met.of (a0 := a0) (Ls := #[.val (.int (3 : Int32))]) (fun z => rfl) (plainFor_of_name pn_java_lang_StringUTF16) hEL (fun m => by first | (simp [entryFrame, mkF, argsToLocals, Value.category]; done) | rfl) ?_
  intro p e s m below meth c B hSf
  refine gs (mkF m 1 _ [(.int (3 : Int32))]) (fun T A t k => XS.iloadN A B.x rfl (B.d d22_0) rfl k) ?_
  refine g_metN (c_static B (hw _ (List.mem_of_getElem? (i := 96) rfl)) (hw _ (List.mem_of_getElem? (i := 97) rfl)) (hw _ (List.mem_of_getElem? (i := 76) rfl)) (hw _ (List.mem_of_getElem? (i := 98) rfl)) (by decide) rfl (lenOf pd_28I29I rfl) rfl (Nat.le_of_eq rfl) d22_1 rfl (argsL := [(.int (3 : Int32))]) (rest := []) (W := 0) (q := 4)) (n_nbl_3 l Z a0 hw hEL  h0 n0) (hw _ (List.mem_of_getElem? (i := 98) rfl)) (hw _ (List.mem_of_getElem? (i := 76) rfl)) (by decide) (by decide) (by decide) (by decide) ?_
  intro v1 h1 hz1 hQ1
  obtain ⟨rfl, rfl⟩ := hQ1
  refine g_newP B (hw _ (List.mem_of_getElem? (i := 20) rfl)) d22_4 (by decide) (cap := 6) (by decide) (by decide) (by decide) (by decide) (q := 6) rfl ?_
  intro h2 b2 k2 g2 E2 S2 A2
  have z2 := E2.1; have y2 : @LT.lt Nat _ b2 h2.size := A2.lt
  have V2 : Arv Z h2 b2 k2 .byte (6 : Int32) [(.int (0 : Int32)), (.int (0 : Int32)), (.int (0 : Int32)), (.int (0 : Int32)), (.int (0 : Int32)), (.int (0 : Int32))] (.int (0 : Int32)) := A2
  exact g_retA B rfl rfl d22_6 (by decide) (by decide) ⟨_, _, rfl, ((Keep.refl h0 []).ext E2), (by omega), V2⟩
set_option maxRecDepth 65536 in
set_option maxHeartbeats 40000000 in
theorem n_putc_6_0 (l : Launch) (Z : State) (a0 : Array Value) (hw : ∀ d ∈ tables_1, d.before a0 Z = true) (hEL : EW Z a0 []) (a1 : Addr) (cc : Int32) (zc : Int32) (rv : Value) (kb : ClassId) (v0 v1 v2 v3 v4 v5 : Value) (h0 : Heap) (n0 : Nat) (PA : Arv Z h0 a1 kb .byte (6 : Int32) [v0, v1, v2, v3, v4, v5] (.int (0 : Int32))) (hd : @LE.le Nat _ n0 a1) (PX : Sts Z zc rv) (PO : Old Z n0 h0) :
    Met false Z [] l (⟨"java/lang/StringUTF16", "putChar", "([BII)V"⟩ : MethodName) jdk_52_method_4_code 3 none ({ frames := 0, cells := 0, slots := 0, locals := 0 } : Room) #[(.ref a1), (.int (0 : Int32)), (.int cc)] h0 [] n0 (fun v h => v = none ∧ Keep h0 h [a1] ∧ Arv Z h a1 kb .byte (6 : Int32) [(.int (StrChars.lo8 cc)), (.int (StrChars.hi8 cc)), v2, v3, v4, v5] (.int (0 : Int32))) := by
  refine Met.of (a0 := a0) (Ls := #[.val (.ref a1), .val (.int (0 : Int32)), .val (.int cc)]) (fun z => rfl) (plainFor_of_name pn_java_lang_StringUTF16) hEL (fun m => by first | (simp [entryFrame, mkF, argsToLocals, Value.category]; done) | rfl) ?_
  intro p e s m below meth c B hSf
  obtain ⟨SC, hzc, SA, SH, SL, SF, rf⟩ := id PX
  refine g_getS B (hw _ (List.mem_of_getElem? (i := 103) rfl)) (SA.ext PO.2) d24_0 (q := 3) rfl ?_
  refine gs (mkF m 28 _ []) (fun T A t k => XS.ifYes A B.x rfl (pc0 := 3) (pc' := 28) rfl (B.d d24_3) rfl ((if0 _ _).trans (feq (by decide : ¬ ((1 : Int32) = (0 : Int32)))).2) (by decide) (by decide) k) ?_
  refine gs (mkF m 29 _ [(.int (0 : Int32))]) (fun T A t k => XS.iloadN A B.x rfl (B.d d24_28) rfl k) ?_
  refine gs (mkF m 30 _ [(.int (1 : Int32)), (.int (0 : Int32))]) (fun T A t k => XS.iconst A B.x rfl (B.d d24_29) k) ?_
  refine gs (mkF m 31 _ [(.int (0 : Int32))]) (fun T A t k => XS.ishl A B.x rfl (B.d d24_30) rfl k) ?_
  refine gs (mkF m 32 #[.val (.ref a1), .val (.int (0 : Int32)), .val (.int cc)] []) (fun T A t k => XS.istoreN A B.x rfl (B.d d24_31) rfl (l' := #[.val (.ref a1), .val (.int (0 : Int32)), .val (.int cc)]) rfl k) ?_
  refine gs (mkF m 33 _ [(.ref a1)]) (fun T A t k => XS.aloadN A B.x rfl (B.d d24_32) rfl rfl k) ?_
  refine gs (mkF m 34 _ [(.int (0 : Int32)), (.ref a1)]) (fun T A t k => XS.iloadN A B.x rfl (B.d d24_33) rfl k) ?_
  refine gs (mkF m 37 #[.val (.ref a1), .val (.int (1 : Int32)), .val (.int cc)] [(.int (0 : Int32)), (.ref a1)]) (fun T A t k => XS.iinc A B.x rfl (B.d d24_34) rfl (l' := #[.val (.ref a1), .val (.int (1 : Int32)), .val (.int cc)]) rfl k) ?_
  refine gs (mkF m 38 _ [(.int cc), (.int (0 : Int32)), (.ref a1)]) (fun T A t k => XS.iloadN A B.x rfl (B.d d24_37) rfl k) ?_
  refine g_getS B (hw _ (List.mem_of_getElem? (i := 104) rfl)) (SH.ext PO.2) d24_38 (q := 41) rfl ?_
  refine gs (mkF m 42 _ [(.int (cc >>> ((0 : Int32) &&& 31))), (.int (0 : Int32)), (.ref a1)]) (fun T A t k => XS.ishr A B.x rfl (B.d d24_41) rfl k) ?_
  refine gs (mkF m 43 _ [(.int ((cc >>> ((0 : Int32) &&& 31)).toInt8.toInt32)), (.int (0 : Int32)), (.ref a1)]) (fun T A t k => XS.i2b A B.x rfl (B.d d24_42) rfl k) ?_
  refine g_stB B PA (x' := (StrChars.lo8 cc)) (nbL _) ⟨by decide, by decide⟩ (i := 0) rfl (Nat.le_of_ble_eq_true rfl) d24_43 nos (by omega) (q := 44) rfl ?_
  intro h21 W21 A21
  have z21 := W21.size
  have V21 : Arv Z h21 a1 kb .byte (6 : Int32) [(.int (StrChars.lo8 cc)), v1, v2, v3, v4, v5] (.int (0 : Int32)) := A21
  refine gs (mkF m 45 _ [(.ref a1)]) (fun T A t k => XS.aloadN A B.x rfl (B.d d24_44) rfl rfl k) ?_
  refine gs (mkF m 46 _ [(.int (1 : Int32)), (.ref a1)]) (fun T A t k => XS.iloadN A B.x rfl (B.d d24_45) rfl k) ?_
  refine gs (mkF m 47 _ [(.int cc), (.int (1 : Int32)), (.ref a1)]) (fun T A t k => XS.iloadN A B.x rfl (B.d d24_46) rfl k) ?_
  refine g_getS B (hw _ (List.mem_of_getElem? (i := 105) rfl)) (SL.ext (PO.wr W21 (by omega)).2) d24_47 (q := 50) rfl ?_
  refine gs (mkF m 51 _ [(.int (cc >>> ((8 : Int32) &&& 31))), (.int (1 : Int32)), (.ref a1)]) (fun T A t k => XS.ishr A B.x rfl (B.d d24_50) rfl k) ?_
  refine gs (mkF m 52 _ [(.int ((cc >>> ((8 : Int32) &&& 31)).toInt8.toInt32)), (.int (1 : Int32)), (.ref a1)]) (fun T A t k => XS.i2b A B.x rfl (B.d d24_51) rfl k) ?_
  refine g_stB B V21 (x' := (StrChars.hi8 cc)) (nbH _) ⟨by decide, by decide⟩ (i := 1) rfl (Nat.le_of_ble_eq_true rfl) d24_52 nos (by omega) (q := 53) rfl ?_
  intro h22 W22 A22
  have z22 := W22.size
  have V22 : Arv Z h22 a1 kb .byte (6 : Int32) [(.int (StrChars.lo8 cc)), (.int (StrChars.hi8 cc)), v2, v3, v4, v5] (.int (0 : Int32)) := A22
  exact g_ret0 B d24_53 (by decide) (by decide) ⟨rfl, (((Keep.refl h0 [a1]).wr W21 (Or.inl (by simp))).wr W22 (Or.inl (by simp))), V22⟩
set_option maxRecDepth 65536 in
set_option maxHeartbeats 40000000 in
theorem n_putc_6_1 (l : Launch) (Z : State) (a0 : Array Value) (hw : ∀ d ∈ tables_1, d.before a0 Z = true) (hEL : EW Z a0 []) (a1 : Addr) (cc : Int32) (zc : Int32) (rv : Value) (kb : ClassId) (v0 v1 v2 v3 v4 v5 : Value) (h0 : Heap) (n0 : Nat) (PA : Arv Z h0 a1 kb .byte (6 : Int32) [v0, v1, v2, v3, v4, v5] (.int (0 : Int32))) (hd : @LE.le Nat _ n0 a1) (PX : Sts Z zc rv) (PO : Old Z n0 h0) :
    Met false Z [] l (⟨"java/lang/StringUTF16", "putChar", "([BII)V"⟩ : MethodName) jdk_52_method_4_code 3 none ({ frames := 0, cells := 0, slots := 0, locals := 0 } : Room) #[(.ref a1), (.int (1 : Int32)), (.int cc)] h0 [] n0 (fun v h => v = none ∧ Keep h0 h [a1] ∧ Arv Z h a1 kb .byte (6 : Int32) [v0, v1, (.int (StrChars.lo8 cc)), (.int (StrChars.hi8 cc)), v4, v5] (.int (0 : Int32))) := by
  refine Met.of (a0 := a0) (Ls := #[.val (.ref a1), .val (.int (1 : Int32)), .val (.int cc)]) (fun z => rfl) (plainFor_of_name pn_java_lang_StringUTF16) hEL (fun m => by first | (simp [entryFrame, mkF, argsToLocals, Value.category]; done) | rfl) ?_
  intro p e s m below meth c B hSf
  obtain ⟨SC, hzc, SA, SH, SL, SF, rf⟩ := id PX
  refine g_getS B (hw _ (List.mem_of_getElem? (i := 103) rfl)) (SA.ext PO.2) d24_0 (q := 3) rfl ?_
  refine gs (mkF m 28 _ []) (fun T A t k => XS.ifYes A B.x rfl (pc0 := 3) (pc' := 28) rfl (B.d d24_3) rfl ((if0 _ _).trans (feq (by decide : ¬ ((1 : Int32) = (0 : Int32)))).2) (by decide) (by decide) k) ?_
  refine gs (mkF m 29 _ [(.int (1 : Int32))]) (fun T A t k => XS.iloadN A B.x rfl (B.d d24_28) rfl k) ?_
  refine gs (mkF m 30 _ [(.int (1 : Int32)), (.int (1 : Int32))]) (fun T A t k => XS.iconst A B.x rfl (B.d d24_29) k) ?_
  refine gs (mkF m 31 _ [(.int (2 : Int32))]) (fun T A t k => XS.ishl A B.x rfl (B.d d24_30) rfl k) ?_
  refine gs (mkF m 32 #[.val (.ref a1), .val (.int (2 : Int32)), .val (.int cc)] []) (fun T A t k => XS.istoreN A B.x rfl (B.d d24_31) rfl (l' := #[.val (.ref a1), .val (.int (2 : Int32)), .val (.int cc)]) rfl k) ?_
  refine gs (mkF m 33 _ [(.ref a1)]) (fun T A t k => XS.aloadN A B.x rfl (B.d d24_32) rfl rfl k) ?_
  refine gs (mkF m 34 _ [(.int (2 : Int32)), (.ref a1)]) (fun T A t k => XS.iloadN A B.x rfl (B.d d24_33) rfl k) ?_
  refine gs (mkF m 37 #[.val (.ref a1), .val (.int (3 : Int32)), .val (.int cc)] [(.int (2 : Int32)), (.ref a1)]) (fun T A t k => XS.iinc A B.x rfl (B.d d24_34) rfl (l' := #[.val (.ref a1), .val (.int (3 : Int32)), .val (.int cc)]) rfl k) ?_
  refine gs (mkF m 38 _ [(.int cc), (.int (2 : Int32)), (.ref a1)]) (fun T A t k => XS.iloadN A B.x rfl (B.d d24_37) rfl k) ?_
  refine g_getS B (hw _ (List.mem_of_getElem? (i := 104) rfl)) (SH.ext PO.2) d24_38 (q := 41) rfl ?_
  refine gs (mkF m 42 _ [(.int (cc >>> ((0 : Int32) &&& 31))), (.int (2 : Int32)), (.ref a1)]) (fun T A t k => XS.ishr A B.x rfl (B.d d24_41) rfl k) ?_
  refine gs (mkF m 43 _ [(.int ((cc >>> ((0 : Int32) &&& 31)).toInt8.toInt32)), (.int (2 : Int32)), (.ref a1)]) (fun T A t k => XS.i2b A B.x rfl (B.d d24_42) rfl k) ?_
  refine g_stB B PA (x' := (StrChars.lo8 cc)) (nbL _) ⟨by decide, by decide⟩ (i := 2) rfl (Nat.le_of_ble_eq_true rfl) d24_43 nos (by omega) (q := 44) rfl ?_
  intro h21 W21 A21
  have z21 := W21.size
  have V21 : Arv Z h21 a1 kb .byte (6 : Int32) [v0, v1, (.int (StrChars.lo8 cc)), v3, v4, v5] (.int (0 : Int32)) := A21
  refine gs (mkF m 45 _ [(.ref a1)]) (fun T A t k => XS.aloadN A B.x rfl (B.d d24_44) rfl rfl k) ?_
  refine gs (mkF m 46 _ [(.int (3 : Int32)), (.ref a1)]) (fun T A t k => XS.iloadN A B.x rfl (B.d d24_45) rfl k) ?_
  refine gs (mkF m 47 _ [(.int cc), (.int (3 : Int32)), (.ref a1)]) (fun T A t k => XS.iloadN A B.x rfl (B.d d24_46) rfl k) ?_
  refine g_getS B (hw _ (List.mem_of_getElem? (i := 105) rfl)) (SL.ext (PO.wr W21 (by omega)).2) d24_47 (q := 50) rfl ?_
  refine gs (mkF m 51 _ [(.int (cc >>> ((8 : Int32) &&& 31))), (.int (3 : Int32)), (.ref a1)]) (fun T A t k => XS.ishr A B.x rfl (B.d d24_50) rfl k) ?_
  refine gs (mkF m 52 _ [(.int ((cc >>> ((8 : Int32) &&& 31)).toInt8.toInt32)), (.int (3 : Int32)), (.ref a1)]) (fun T A t k => XS.i2b A B.x rfl (B.d d24_51) rfl k) ?_
  refine g_stB B V21 (x' := (StrChars.hi8 cc)) (nbH _) ⟨by decide, by decide⟩ (i := 3) rfl (Nat.le_of_ble_eq_true rfl) d24_52 nos (by omega) (q := 53) rfl ?_
  intro h22 W22 A22
  have z22 := W22.size
  have V22 : Arv Z h22 a1 kb .byte (6 : Int32) [v0, v1, (.int (StrChars.lo8 cc)), (.int (StrChars.hi8 cc)), v4, v5] (.int (0 : Int32)) := A22
  exact g_ret0 B d24_53 (by decide) (by decide) ⟨rfl, (((Keep.refl h0 [a1]).wr W21 (Or.inl (by simp))).wr W22 (Or.inl (by simp))), V22⟩
set_option maxRecDepth 65536 in
set_option maxHeartbeats 40000000 in
theorem n_putc_6_2 (l : Launch) (Z : State) (a0 : Array Value) (hw : ∀ d ∈ tables_1, d.before a0 Z = true) (hEL : EW Z a0 []) (a1 : Addr) (cc : Int32) (zc : Int32) (rv : Value) (kb : ClassId) (v0 v1 v2 v3 v4 v5 : Value) (h0 : Heap) (n0 : Nat) (PA : Arv Z h0 a1 kb .byte (6 : Int32) [v0, v1, v2, v3, v4, v5] (.int (0 : Int32))) (hd : @LE.le Nat _ n0 a1) (PX : Sts Z zc rv) (PO : Old Z n0 h0) :
    Met false Z [] l (⟨"java/lang/StringUTF16", "putChar", "([BII)V"⟩ : MethodName) jdk_52_method_4_code 3 none ({ frames := 0, cells := 0, slots := 0, locals := 0 } : Room) #[(.ref a1), (.int (2 : Int32)), (.int cc)] h0 [] n0 (fun v h => v = none ∧ Keep h0 h [a1] ∧ Arv Z h a1 kb .byte (6 : Int32) [v0, v1, v2, v3, (.int (StrChars.lo8 cc)), (.int (StrChars.hi8 cc))] (.int (0 : Int32))) := by
  refine Met.of (a0 := a0) (Ls := #[.val (.ref a1), .val (.int (2 : Int32)), .val (.int cc)]) (fun z => rfl) (plainFor_of_name pn_java_lang_StringUTF16) hEL (fun m => by first | (simp [entryFrame, mkF, argsToLocals, Value.category]; done) | rfl) ?_
  intro p e s m below meth c B hSf
  obtain ⟨SC, hzc, SA, SH, SL, SF, rf⟩ := id PX
  refine g_getS B (hw _ (List.mem_of_getElem? (i := 103) rfl)) (SA.ext PO.2) d24_0 (q := 3) rfl ?_
  refine gs (mkF m 28 _ []) (fun T A t k => XS.ifYes A B.x rfl (pc0 := 3) (pc' := 28) rfl (B.d d24_3) rfl ((if0 _ _).trans (feq (by decide : ¬ ((1 : Int32) = (0 : Int32)))).2) (by decide) (by decide) k) ?_
  refine gs (mkF m 29 _ [(.int (2 : Int32))]) (fun T A t k => XS.iloadN A B.x rfl (B.d d24_28) rfl k) ?_
  refine gs (mkF m 30 _ [(.int (1 : Int32)), (.int (2 : Int32))]) (fun T A t k => XS.iconst A B.x rfl (B.d d24_29) k) ?_
  refine gs (mkF m 31 _ [(.int (4 : Int32))]) (fun T A t k => XS.ishl A B.x rfl (B.d d24_30) rfl k) ?_
  refine gs (mkF m 32 #[.val (.ref a1), .val (.int (4 : Int32)), .val (.int cc)] []) (fun T A t k => XS.istoreN A B.x rfl (B.d d24_31) rfl (l' := #[.val (.ref a1), .val (.int (4 : Int32)), .val (.int cc)]) rfl k) ?_
  refine gs (mkF m 33 _ [(.ref a1)]) (fun T A t k => XS.aloadN A B.x rfl (B.d d24_32) rfl rfl k) ?_
  refine gs (mkF m 34 _ [(.int (4 : Int32)), (.ref a1)]) (fun T A t k => XS.iloadN A B.x rfl (B.d d24_33) rfl k) ?_
  refine gs (mkF m 37 #[.val (.ref a1), .val (.int (5 : Int32)), .val (.int cc)] [(.int (4 : Int32)), (.ref a1)]) (fun T A t k => XS.iinc A B.x rfl (B.d d24_34) rfl (l' := #[.val (.ref a1), .val (.int (5 : Int32)), .val (.int cc)]) rfl k) ?_
  refine gs (mkF m 38 _ [(.int cc), (.int (4 : Int32)), (.ref a1)]) (fun T A t k => XS.iloadN A B.x rfl (B.d d24_37) rfl k) ?_
  refine g_getS B (hw _ (List.mem_of_getElem? (i := 104) rfl)) (SH.ext PO.2) d24_38 (q := 41) rfl ?_
  refine gs (mkF m 42 _ [(.int (cc >>> ((0 : Int32) &&& 31))), (.int (4 : Int32)), (.ref a1)]) (fun T A t k => XS.ishr A B.x rfl (B.d d24_41) rfl k) ?_
  refine gs (mkF m 43 _ [(.int ((cc >>> ((0 : Int32) &&& 31)).toInt8.toInt32)), (.int (4 : Int32)), (.ref a1)]) (fun T A t k => XS.i2b A B.x rfl (B.d d24_42) rfl k) ?_
  refine g_stB B PA (x' := (StrChars.lo8 cc)) (nbL _) ⟨by decide, by decide⟩ (i := 4) rfl (Nat.le_of_ble_eq_true rfl) d24_43 nos (by omega) (q := 44) rfl ?_
  intro h21 W21 A21
  have z21 := W21.size
  have V21 : Arv Z h21 a1 kb .byte (6 : Int32) [v0, v1, v2, v3, (.int (StrChars.lo8 cc)), v5] (.int (0 : Int32)) := A21
  refine gs (mkF m 45 _ [(.ref a1)]) (fun T A t k => XS.aloadN A B.x rfl (B.d d24_44) rfl rfl k) ?_
  refine gs (mkF m 46 _ [(.int (5 : Int32)), (.ref a1)]) (fun T A t k => XS.iloadN A B.x rfl (B.d d24_45) rfl k) ?_
  refine gs (mkF m 47 _ [(.int cc), (.int (5 : Int32)), (.ref a1)]) (fun T A t k => XS.iloadN A B.x rfl (B.d d24_46) rfl k) ?_
  refine g_getS B (hw _ (List.mem_of_getElem? (i := 105) rfl)) (SL.ext (PO.wr W21 (by omega)).2) d24_47 (q := 50) rfl ?_
  refine gs (mkF m 51 _ [(.int (cc >>> ((8 : Int32) &&& 31))), (.int (5 : Int32)), (.ref a1)]) (fun T A t k => XS.ishr A B.x rfl (B.d d24_50) rfl k) ?_
  refine gs (mkF m 52 _ [(.int ((cc >>> ((8 : Int32) &&& 31)).toInt8.toInt32)), (.int (5 : Int32)), (.ref a1)]) (fun T A t k => XS.i2b A B.x rfl (B.d d24_51) rfl k) ?_
  refine g_stB B V21 (x' := (StrChars.hi8 cc)) (nbH _) ⟨by decide, by decide⟩ (i := 5) rfl (Nat.le_of_ble_eq_true rfl) d24_52 nos (by omega) (q := 53) rfl ?_
  intro h22 W22 A22
  have z22 := W22.size
  have V22 : Arv Z h22 a1 kb .byte (6 : Int32) [v0, v1, v2, v3, (.int (StrChars.lo8 cc)), (.int (StrChars.hi8 cc))] (.int (0 : Int32)) := A22
  exact g_ret0 B d24_53 (by decide) (by decide) ⟨rfl, (((Keep.refl h0 [a1]).wr W21 (Or.inl (by simp))).wr W22 (Or.inl (by simp))), V22⟩
set_option maxRecDepth 65536 in
set_option maxHeartbeats 40000000 in
theorem n_tob_3 (l : Launch) (Z : State) (a0 : Array Value) (hw : ∀ d ∈ tables_1, d.before a0 Z = true) (hEL : EW Z a0 []) (a1 : Addr) (zc : Int32) (rv : Value) (kc : ClassId) (c0 c1 c2 : Int32) (h0 : Heap) (n0 : Nat) (PA : Arv Z h0 a1 kc .char (3 : Int32) [(.int c0), (.int c1), (.int c2)] (.int (0 : Int32))) (hn : @LE.le Nat _ n0 h0.size) (ha : @LT.lt Nat _ a1 h0.size) (PX : Sts Z zc rv) (PO : Old Z n0 h0) :
    Met false Z [] l (⟨"java/lang/StringUTF16", "toBytes", "([CII)[B"⟩ : MethodName) jdk_52_method_14_code 5 (some (.array .byte)) ({ frames := 2, cells := 1, slots := 6, locals := 24 } : Room) #[(.ref a1), (.int (0 : Int32)), (.int (3 : Int32))] h0 [] n0 (fun v h => ∃ (x : Addr) (kb : ClassId), v = some (.ref x) ∧ Keep h0 h [] ∧ @LE.le Nat _ h0.size x ∧ Arv Z h x kb .byte (6 : Int32) [(.int (StrChars.lo8 c0)), (.int (StrChars.hi8 c0)), (.int (StrChars.lo8 c1)), (.int (StrChars.hi8 c1)), (.int (StrChars.lo8 c2)), (.int (StrChars.hi8 c2))] (.int (0 : Int32))) := by
  refine Met.of (a0 := a0) (Ls := #[.val (.ref a1), .val (.int (0 : Int32)), .val (.int (3 : Int32)), .unset, .unset]) (fun z => rfl) (plainFor_of_name pn_java_lang_StringUTF16) hEL (fun m => by first | (simp [entryFrame, mkF, argsToLocals, Value.category]; done) | rfl) ?_
  intro p e s m below meth c B hSf
  obtain ⟨SC, hzc, SA, SH, SL, SF, rf⟩ := id PX
  refine gs (mkF m 1 _ [(.int (3 : Int32))]) (fun T A t k => XS.iloadN A B.x rfl (B.d d21_0) rfl k) ?_
  refine g_metN (c_static B (hw _ (List.mem_of_getElem? (i := 93) rfl)) (hw _ (List.mem_of_getElem? (i := 94) rfl)) (hw _ (List.mem_of_getElem? (i := 76) rfl)) (hw _ (List.mem_of_getElem? (i := 95) rfl)) (by decide) rfl (lenOf pd_28I295bB rfl) rfl (Nat.le_of_eq rfl) d21_1 rfl (argsL := [(.int (3 : Int32))]) (rest := []) (W := 0) (q := 4)) (n_nbf_3 l Z a0 hw hEL  h0 n0) (hw _ (List.mem_of_getElem? (i := 95) rfl)) (hw _ (List.mem_of_getElem? (i := 76) rfl)) (by decide) (by decide) (by decide) (by decide) ?_
  intro v21 h21 hz21 hQ21
  obtain ⟨x21, k21, rfl, K21, g21, V21⟩ := hQ21
  have z21 := K21.1; have y21 : @LT.lt Nat _ x21 h21.size := V21.lt
  refine gs (mkF m 5 #[.val (.ref a1), .val (.int (0 : Int32)), .val (.int (3 : Int32)), .val (.ref x21), .unset] []) (fun T A t k => XS.astoreN A B.x rfl (B.d d21_4) rfl rfl (l' := #[.val (.ref a1), .val (.int (0 : Int32)), .val (.int (3 : Int32)), .val (.ref x21), .unset]) rfl k) ?_
  refine gs (mkF m 6 _ [(.int (0 : Int32))]) (fun T A t k => XS.iconst A B.x rfl (B.d d21_5) k) ?_
  refine gs (mkF m 8 #[.val (.ref a1), .val (.int (0 : Int32)), .val (.int (3 : Int32)), .val (.ref x21), .val (.int (0 : Int32))] []) (fun T A t k => XS.istore A B.x rfl (B.d d21_6) rfl (l' := #[.val (.ref a1), .val (.int (0 : Int32)), .val (.int (3 : Int32)), .val (.ref x21), .val (.int (0 : Int32))]) rfl k) ?_
  refine gs (mkF m 10 _ [(.int (0 : Int32))]) (fun T A t k => XS.iload A B.x rfl (B.d d21_8) rfl k) ?_
  refine gs (mkF m 11 _ [(.int (3 : Int32)), (.int (0 : Int32))]) (fun T A t k => XS.iloadN A B.x rfl (B.d d21_10) rfl k) ?_
  refine gs (mkF m 14 _ []) (fun T A t k => XS.icmpNo A B.x rfl (B.d d21_11) rfl (tlt (by decide : (0 : Int32) < (3 : Int32))).2.1 k) ?_
  refine gs (mkF m 15 _ [(.ref x21)]) (fun T A t k => XS.aloadN A B.x rfl (B.d d21_14) rfl rfl k) ?_
  refine gs (mkF m 17 _ [(.int (0 : Int32)), (.ref x21)]) (fun T A t k => XS.iload A B.x rfl (B.d d21_15) rfl k) ?_
  refine gs (mkF m 18 _ [(.ref a1), (.int (0 : Int32)), (.ref x21)]) (fun T A t k => XS.aloadN A B.x rfl (B.d d21_17) rfl rfl k) ?_
  refine gs (mkF m 19 _ [(.int (0 : Int32)), (.ref a1), (.int (0 : Int32)), (.ref x21)]) (fun T A t k => XS.iloadN A B.x rfl (B.d d21_18) rfl k) ?_
  refine g_ldC B (PA.keep K21 nin0) ⟨by decide, by decide⟩ (v := (.int c0)) rfl d21_19 (q := 20) rfl ?_
  refine g_metN (c_static B (hw _ (List.mem_of_getElem? (i := 100) rfl)) (hw _ (List.mem_of_getElem? (i := 101) rfl)) (hw _ (List.mem_of_getElem? (i := 76) rfl)) (hw _ (List.mem_of_getElem? (i := 102) rfl)) (by decide) rfl (lenOf pd_285bBII29V rfl) rfl (Nat.le_of_eq rfl) d21_20 rfl (argsL := [(.ref x21), (.int (0 : Int32)), (.int c0)]) (rest := []) (W := 0) (q := 23)) (n_putc_6_0 l Z a0 hw hEL x21 (c0) zc rv k21 (.int (0 : Int32)) (.int (0 : Int32)) (.int (0 : Int32)) (.int (0 : Int32)) (.int (0 : Int32)) (.int (0 : Int32)) h21 n0 V21 (by omega) PX (PO.keep K21 all0)) (hw _ (List.mem_of_getElem? (i := 102) rfl)) (hw _ (List.mem_of_getElem? (i := 76) rfl)) (by decide) (by decide) (by decide) (by decide) ?_
  intro v22 h22 hz22 hQ22
  obtain ⟨rfl, K22, V22⟩ := hQ22
  have z22 := K22.1
  refine gs (mkF m 26 #[.val (.ref a1), .val (.int (1 : Int32)), .val (.int (3 : Int32)), .val (.ref x21), .val (.int (0 : Int32))] []) (fun T A t k => XS.iinc A B.x rfl (B.d d21_23) rfl (l' := #[.val (.ref a1), .val (.int (1 : Int32)), .val (.int (3 : Int32)), .val (.ref x21), .val (.int (0 : Int32))]) rfl k) ?_
  refine gs (mkF m 29 #[.val (.ref a1), .val (.int (1 : Int32)), .val (.int (3 : Int32)), .val (.ref x21), .val (.int (1 : Int32))] []) (fun T A t k => XS.iinc A B.x rfl (B.d d21_26) rfl (l' := #[.val (.ref a1), .val (.int (1 : Int32)), .val (.int (3 : Int32)), .val (.ref x21), .val (.int (1 : Int32))]) rfl k) ?_
  refine gs (mkF m 8 _ []) (fun T A t k => XS.goto A B.x rfl (pc0 := 29) (pc' := 8) rfl (B.d d21_29) (by decide) (by decide) k) ?_
  refine gs (mkF m 10 _ [(.int (1 : Int32))]) (fun T A t k => XS.iload A B.x rfl (B.d d21_8) rfl k) ?_
  refine gs (mkF m 11 _ [(.int (3 : Int32)), (.int (1 : Int32))]) (fun T A t k => XS.iloadN A B.x rfl (B.d d21_10) rfl k) ?_
  refine gs (mkF m 14 _ []) (fun T A t k => XS.icmpNo A B.x rfl (B.d d21_11) rfl (tlt (by decide : (1 : Int32) < (3 : Int32))).2.1 k) ?_
  refine gs (mkF m 15 _ [(.ref x21)]) (fun T A t k => XS.aloadN A B.x rfl (B.d d21_14) rfl rfl k) ?_
  refine gs (mkF m 17 _ [(.int (1 : Int32)), (.ref x21)]) (fun T A t k => XS.iload A B.x rfl (B.d d21_15) rfl k) ?_
  refine gs (mkF m 18 _ [(.ref a1), (.int (1 : Int32)), (.ref x21)]) (fun T A t k => XS.aloadN A B.x rfl (B.d d21_17) rfl rfl k) ?_
  refine gs (mkF m 19 _ [(.int (1 : Int32)), (.ref a1), (.int (1 : Int32)), (.ref x21)]) (fun T A t k => XS.iloadN A B.x rfl (B.d d21_18) rfl k) ?_
  refine g_ldC B ((PA.keep K21 nin0).keep K22 (ninS (by omega : @Ne Nat a1 x21) nin0)) ⟨by decide, by decide⟩ (v := (.int c1)) rfl d21_19 (q := 20) rfl ?_
  refine g_metN (c_static B (hw _ (List.mem_of_getElem? (i := 100) rfl)) (hw _ (List.mem_of_getElem? (i := 101) rfl)) (hw _ (List.mem_of_getElem? (i := 76) rfl)) (hw _ (List.mem_of_getElem? (i := 102) rfl)) (by decide) rfl (lenOf pd_285bBII29V rfl) rfl (Nat.le_of_eq rfl) d21_20 rfl (argsL := [(.ref x21), (.int (1 : Int32)), (.int c1)]) (rest := []) (W := 0) (q := 23)) (n_putc_6_1 l Z a0 hw hEL x21 (c1) zc rv k21 (.int (StrChars.lo8 c0)) (.int (StrChars.hi8 c0)) (.int (0 : Int32)) (.int (0 : Int32)) (.int (0 : Int32)) (.int (0 : Int32)) h22 n0 V22 (by omega) PX ((PO.keep K21 all0).keep K22 (allS (by omega) all0))) (hw _ (List.mem_of_getElem? (i := 102) rfl)) (hw _ (List.mem_of_getElem? (i := 76) rfl)) (by decide) (by decide) (by decide) (by decide) ?_
  intro v23 h23 hz23 hQ23
  obtain ⟨rfl, K23, V23⟩ := hQ23
  have z23 := K23.1
  refine gs (mkF m 26 #[.val (.ref a1), .val (.int (2 : Int32)), .val (.int (3 : Int32)), .val (.ref x21), .val (.int (1 : Int32))] []) (fun T A t k => XS.iinc A B.x rfl (B.d d21_23) rfl (l' := #[.val (.ref a1), .val (.int (2 : Int32)), .val (.int (3 : Int32)), .val (.ref x21), .val (.int (1 : Int32))]) rfl k) ?_
  refine gs (mkF m 29 #[.val (.ref a1), .val (.int (2 : Int32)), .val (.int (3 : Int32)), .val (.ref x21), .val (.int (2 : Int32))] []) (fun T A t k => XS.iinc A B.x rfl (B.d d21_26) rfl (l' := #[.val (.ref a1), .val (.int (2 : Int32)), .val (.int (3 : Int32)), .val (.ref x21), .val (.int (2 : Int32))]) rfl k) ?_
  refine gs (mkF m 8 _ []) (fun T A t k => XS.goto A B.x rfl (pc0 := 29) (pc' := 8) rfl (B.d d21_29) (by decide) (by decide) k) ?_
  refine gs (mkF m 10 _ [(.int (2 : Int32))]) (fun T A t k => XS.iload A B.x rfl (B.d d21_8) rfl k) ?_
  refine gs (mkF m 11 _ [(.int (3 : Int32)), (.int (2 : Int32))]) (fun T A t k => XS.iloadN A B.x rfl (B.d d21_10) rfl k) ?_
  refine gs (mkF m 14 _ []) (fun T A t k => XS.icmpNo A B.x rfl (B.d d21_11) rfl (tlt (by decide : (2 : Int32) < (3 : Int32))).2.1 k) ?_
  refine gs (mkF m 15 _ [(.ref x21)]) (fun T A t k => XS.aloadN A B.x rfl (B.d d21_14) rfl rfl k) ?_
  refine gs (mkF m 17 _ [(.int (2 : Int32)), (.ref x21)]) (fun T A t k => XS.iload A B.x rfl (B.d d21_15) rfl k) ?_
  refine gs (mkF m 18 _ [(.ref a1), (.int (2 : Int32)), (.ref x21)]) (fun T A t k => XS.aloadN A B.x rfl (B.d d21_17) rfl rfl k) ?_
  refine gs (mkF m 19 _ [(.int (2 : Int32)), (.ref a1), (.int (2 : Int32)), (.ref x21)]) (fun T A t k => XS.iloadN A B.x rfl (B.d d21_18) rfl k) ?_
  refine g_ldC B (((PA.keep K21 nin0).keep K22 (ninS (by omega : @Ne Nat a1 x21) nin0)).keep K23 (ninS (by omega : @Ne Nat a1 x21) nin0)) ⟨by decide, by decide⟩ (v := (.int c2)) rfl d21_19 (q := 20) rfl ?_
  refine g_metN (c_static B (hw _ (List.mem_of_getElem? (i := 100) rfl)) (hw _ (List.mem_of_getElem? (i := 101) rfl)) (hw _ (List.mem_of_getElem? (i := 76) rfl)) (hw _ (List.mem_of_getElem? (i := 102) rfl)) (by decide) rfl (lenOf pd_285bBII29V rfl) rfl (Nat.le_of_eq rfl) d21_20 rfl (argsL := [(.ref x21), (.int (2 : Int32)), (.int c2)]) (rest := []) (W := 0) (q := 23)) (n_putc_6_2 l Z a0 hw hEL x21 (c2) zc rv k21 (.int (StrChars.lo8 c0)) (.int (StrChars.hi8 c0)) (.int (StrChars.lo8 c1)) (.int (StrChars.hi8 c1)) (.int (0 : Int32)) (.int (0 : Int32)) h23 n0 V23 (by omega) PX (((PO.keep K21 all0).keep K22 (allS (by omega) all0)).keep K23 (allS (by omega) all0))) (hw _ (List.mem_of_getElem? (i := 102) rfl)) (hw _ (List.mem_of_getElem? (i := 76) rfl)) (by decide) (by decide) (by decide) (by decide) ?_
  intro v24 h24 hz24 hQ24
  obtain ⟨rfl, K24, V24⟩ := hQ24
  have z24 := K24.1
  refine gs (mkF m 26 #[.val (.ref a1), .val (.int (3 : Int32)), .val (.int (3 : Int32)), .val (.ref x21), .val (.int (2 : Int32))] []) (fun T A t k => XS.iinc A B.x rfl (B.d d21_23) rfl (l' := #[.val (.ref a1), .val (.int (3 : Int32)), .val (.int (3 : Int32)), .val (.ref x21), .val (.int (2 : Int32))]) rfl k) ?_
  refine gs (mkF m 29 #[.val (.ref a1), .val (.int (3 : Int32)), .val (.int (3 : Int32)), .val (.ref x21), .val (.int (3 : Int32))] []) (fun T A t k => XS.iinc A B.x rfl (B.d d21_26) rfl (l' := #[.val (.ref a1), .val (.int (3 : Int32)), .val (.int (3 : Int32)), .val (.ref x21), .val (.int (3 : Int32))]) rfl k) ?_
  refine gs (mkF m 8 _ []) (fun T A t k => XS.goto A B.x rfl (pc0 := 29) (pc' := 8) rfl (B.d d21_29) (by decide) (by decide) k) ?_
  refine gs (mkF m 10 _ [(.int (3 : Int32))]) (fun T A t k => XS.iload A B.x rfl (B.d d21_8) rfl k) ?_
  refine gs (mkF m 11 _ [(.int (3 : Int32)), (.int (3 : Int32))]) (fun T A t k => XS.iloadN A B.x rfl (B.d d21_10) rfl k) ?_
  refine gs (mkF m 32 _ []) (fun T A t k => XS.icmpYes A B.x rfl (pc0 := 11) (pc' := 32) rfl (B.d d21_11) rfl (flt (by decide : ¬ ((3 : Int32) < (3 : Int32)))).2.1 (by decide) (by decide) k) ?_
  refine gs (mkF m 33 _ [(.ref x21)]) (fun T A t k => XS.aloadN A B.x rfl (B.d d21_32) rfl rfl k) ?_
  exact g_retA B rfl rfl d21_33 (by decide) (by decide) ⟨_, _, rfl, (((((Keep.refl h0 []).trans K21 all0).trans K22 (allS (Or.inr (by omega)) all0)).trans K23 (allS (Or.inr (by omega)) all0)).trans K24 (allS (Or.inr (by omega)) all0)), (by omega), V24⟩
set_option maxRecDepth 65536 in
set_option maxHeartbeats 40000000 in
theorem n_gc_6_0 (l : Launch) (Z : State) (a0 : Array Value) (hw : ∀ d ∈ tables_1, d.before a0 Z = true) (hEL : EW Z a0 []) (a1 : Addr) (zc : Int32) (rv : Value) (kb : ClassId) (c0 c1 c2 : Int32) (h0 : Heap) (n0 : Nat) (PA : Arv Z h0 a1 kb .byte (6 : Int32) [(.int (StrChars.lo8 c0)), (.int (StrChars.hi8 c0)), (.int (StrChars.lo8 c1)), (.int (StrChars.hi8 c1)), (.int (StrChars.lo8 c2)), (.int (StrChars.hi8 c2))] (.int (0 : Int32))) (hr : rng c0) (PX : Sts Z zc rv) (PO : Old Z n0 h0) :
    Met false Z [] l (⟨"java/lang/StringUTF16", "getChar", "([BI)C"⟩ : MethodName) jdk_52_method_5_code 2 (some .char) ({ frames := 0, cells := 0, slots := 0, locals := 0 } : Room) #[(.ref a1), (.int (0 : Int32))] h0 [] n0 (fun v h => v = some (.int c0) ∧ h0 = h) := by
  refine Met.of (a0 := a0) (Ls := #[.val (.ref a1), .val (.int (0 : Int32))]) (fun z => rfl) (plainFor_of_name pn_java_lang_StringUTF16) hEL (fun m => by first | (simp [entryFrame, mkF, argsToLocals, Value.category]; done) | rfl) ?_
  intro p e s m below meth c B hSf
  obtain ⟨SC, hzc, SA, SH, SL, SF, rf⟩ := id PX
  refine g_getS B (hw _ (List.mem_of_getElem? (i := 103) rfl)) (SA.ext PO.2) d25_0 (q := 3) rfl ?_
  refine gs (mkF m 28 _ []) (fun T A t k => XS.ifYes A B.x rfl (pc0 := 3) (pc' := 28) rfl (B.d d25_3) rfl ((if0 _ _).trans (feq (by decide : ¬ ((1 : Int32) = (0 : Int32)))).2) (by decide) (by decide) k) ?_
  refine gs (mkF m 29 _ [(.int (0 : Int32))]) (fun T A t k => XS.iloadN A B.x rfl (B.d d25_28) rfl k) ?_
  refine gs (mkF m 30 _ [(.int (1 : Int32)), (.int (0 : Int32))]) (fun T A t k => XS.iconst A B.x rfl (B.d d25_29) k) ?_
  refine gs (mkF m 31 _ [(.int (0 : Int32))]) (fun T A t k => XS.ishl A B.x rfl (B.d d25_30) rfl k) ?_
  refine gs (mkF m 32 #[.val (.ref a1), .val (.int (0 : Int32))] []) (fun T A t k => XS.istoreN A B.x rfl (B.d d25_31) rfl (l' := #[.val (.ref a1), .val (.int (0 : Int32))]) rfl k) ?_
  refine gs (mkF m 33 _ [(.ref a1)]) (fun T A t k => XS.aloadN A B.x rfl (B.d d25_32) rfl rfl k) ?_
  refine gs (mkF m 34 _ [(.int (0 : Int32)), (.ref a1)]) (fun T A t k => XS.iloadN A B.x rfl (B.d d25_33) rfl k) ?_
  refine gs (mkF m 37 #[.val (.ref a1), .val (.int (1 : Int32))] [(.int (0 : Int32)), (.ref a1)]) (fun T A t k => XS.iinc A B.x rfl (B.d d25_34) rfl (l' := #[.val (.ref a1), .val (.int (1 : Int32))]) rfl k) ?_
  refine g_ldB B PA ⟨by decide, by decide⟩ (v := (.int (StrChars.lo8 c0))) rfl d25_37 (q := 38) rfl ?_
  refine gs (mkF m 41 _ [(.int (255 : Int32)), (.int (StrChars.lo8 c0))]) (fun T A t k => XS.sipush A B.x rfl (B.d d25_38) k) ?_
  refine gs (mkF m 42 _ [(.int ((StrChars.lo8 c0) &&& (255 : Int32)))]) (fun T A t k => XS.iand A B.x rfl (B.d d25_41) rfl k) ?_
  refine g_getS B (hw _ (List.mem_of_getElem? (i := 104) rfl)) (SH.ext PO.2) d25_42 (q := 45) rfl ?_
  refine gs (mkF m 46 _ [(.int (((StrChars.lo8 c0) &&& (255 : Int32)) <<< ((0 : Int32) &&& 31)))]) (fun T A t k => XS.ishl A B.x rfl (B.d d25_45) rfl k) ?_
  refine gs (mkF m 47 _ [(.ref a1), (.int (((StrChars.lo8 c0) &&& (255 : Int32)) <<< ((0 : Int32) &&& 31)))]) (fun T A t k => XS.aloadN A B.x rfl (B.d d25_46) rfl rfl k) ?_
  refine gs (mkF m 48 _ [(.int (1 : Int32)), (.ref a1), (.int (((StrChars.lo8 c0) &&& (255 : Int32)) <<< ((0 : Int32) &&& 31)))]) (fun T A t k => XS.iloadN A B.x rfl (B.d d25_47) rfl k) ?_
  refine g_ldB B PA ⟨by decide, by decide⟩ (v := (.int (StrChars.hi8 c0))) rfl d25_48 (q := 49) rfl ?_
  refine gs (mkF m 52 _ [(.int (255 : Int32)), (.int (StrChars.hi8 c0)), (.int (((StrChars.lo8 c0) &&& (255 : Int32)) <<< ((0 : Int32) &&& 31)))]) (fun T A t k => XS.sipush A B.x rfl (B.d d25_49) k) ?_
  refine gs (mkF m 53 _ [(.int ((StrChars.hi8 c0) &&& (255 : Int32))), (.int (((StrChars.lo8 c0) &&& (255 : Int32)) <<< ((0 : Int32) &&& 31)))]) (fun T A t k => XS.iand A B.x rfl (B.d d25_52) rfl k) ?_
  refine g_getS B (hw _ (List.mem_of_getElem? (i := 105) rfl)) (SL.ext PO.2) d25_53 (q := 56) rfl ?_
  refine gs (mkF m 57 _ [(.int (((StrChars.hi8 c0) &&& (255 : Int32)) <<< ((8 : Int32) &&& 31))), (.int (((StrChars.lo8 c0) &&& (255 : Int32)) <<< ((0 : Int32) &&& 31)))]) (fun T A t k => XS.ishl A B.x rfl (B.d d25_56) rfl k) ?_
  refine gs (mkF m 58 _ [(.int ((((StrChars.lo8 c0) &&& (255 : Int32)) <<< ((0 : Int32) &&& 31)) ||| (((StrChars.hi8 c0) &&& (255 : Int32)) <<< ((8 : Int32) &&& 31))))]) (fun T A t k => XS.ior A B.x rfl (B.d d25_57) rfl k) ?_
  refine gs (mkF m 59 _ [(.int (((((StrChars.lo8 c0) &&& (255 : Int32)) <<< ((0 : Int32) &&& 31)) ||| (((StrChars.hi8 c0) &&& (255 : Int32)) <<< ((8 : Int32) &&& 31))).toUInt32.toUInt16.toUInt32.toInt32))]) (fun T A t k => XS.i2c A B.x rfl (B.d d25_58) rfl k) ?_
  exact g_retN (t := .char) B (by simp) d25_59 (by decide) (by decide) ⟨congrArg (fun z => some (Value.int z)) (got_ch hr), rfl⟩
set_option maxRecDepth 65536 in
set_option maxHeartbeats 40000000 in
theorem n_comp3_3_0 (l : Launch) (Z : State) (a0 : Array Value) (hw : ∀ d ∈ tables_1, d.before a0 Z = true) (hEL : EW Z a0 []) (a1 : Addr) (zc : Int32) (rv : Value) (kc : ClassId) (c0 c1 c2 : Int32) (h0 : Heap) (n0 : Nat) (PA : Arv Z h0 a1 kc .char (3 : Int32) [(.int c0), (.int c1), (.int c2)] (.int (0 : Int32))) (hn : @LE.le Nat _ n0 h0.size) (ha : @LT.lt Nat _ a1 h0.size) (hr0 : rng c0) (hr1 : rng c1) (hr2 : rng c2)  (hg : (255 : Int32) < c0) (PX : Sts Z zc rv) (PO : Old Z n0 h0) :
    Met false Z [] l (⟨"java/lang/StringUTF16", "compress", "([CII)[B"⟩ : MethodName) jdk_52_method_16_code 6 (some (.array .byte)) ({ frames := 3, cells := 2, slots := 9, locals := 40 } : Room) #[(.ref a1), (.int (0 : Int32)), (.int (3 : Int32))] h0 [] n0 (fun v h => ∃ (x : Addr) (kb : ClassId), v = some (.ref x) ∧ Keep h0 h [] ∧ @LE.le Nat _ h0.size x ∧ Arv Z h x kb .byte (6 : Int32) [(.int (StrChars.lo8 c0)), (.int (StrChars.hi8 c0)), (.int (StrChars.lo8 c1)), (.int (StrChars.hi8 c1)), (.int (StrChars.lo8 c2)), (.int (StrChars.hi8 c2))] (.int (0 : Int32))) := by
  refine Met.of (a0 := a0) (Ls := #[.val (.ref a1), .val (.int (0 : Int32)), .val (.int (3 : Int32)), .unset, .unset, .unset]) (fun z => rfl) (plainFor_of_name pn_java_lang_StringUTF16) hEL (fun m => by first | (simp [entryFrame, mkF, argsToLocals, Value.category]; done) | rfl) ?_
  intro p e s m below meth c B hSf
  obtain ⟨SC, hzc, SA, SH, SL, SF, rf⟩ := id PX
  refine gs (mkF m 1 _ [(.int (3 : Int32))]) (fun T A t k => XS.iloadN A B.x rfl (B.d d16_0) rfl k) ?_
  refine g_newP B (hw _ (List.mem_of_getElem? (i := 20) rfl)) d16_1 (by decide) (cap := 3) (by decide) (by decide) (by decide) (by decide) (q := 3) rfl ?_
  intro h21 b21 k21 g21 E21 S21 A21
  have z21 := E21.1; have y21 : @LT.lt Nat _ b21 h21.size := A21.lt
  have V21 : Arv Z h21 b21 k21 .byte (3 : Int32) [(.int (0 : Int32)), (.int (0 : Int32)), (.int (0 : Int32))] (.int (0 : Int32)) := A21
  refine gs (mkF m 4 #[.val (.ref a1), .val (.int (0 : Int32)), .val (.int (3 : Int32)), .val (.ref b21), .unset, .unset] []) (fun T A t k => XS.astoreN A B.x rfl (B.d d16_3) rfl rfl (l' := #[.val (.ref a1), .val (.int (0 : Int32)), .val (.int (3 : Int32)), .val (.ref b21), .unset, .unset]) rfl k) ?_
  refine gs (mkF m 5 _ [(.ref a1)]) (fun T A t k => XS.aloadN A B.x rfl (B.d d16_4) rfl rfl k) ?_
  refine gs (mkF m 6 _ [(.int (0 : Int32)), (.ref a1)]) (fun T A t k => XS.iloadN A B.x rfl (B.d d16_5) rfl k) ?_
  refine gs (mkF m 7 _ [(.ref b21), (.int (0 : Int32)), (.ref a1)]) (fun T A t k => XS.aloadN A B.x rfl (B.d d16_6) rfl rfl k) ?_
  refine gs (mkF m 8 _ [(.int (0 : Int32)), (.ref b21), (.int (0 : Int32)), (.ref a1)]) (fun T A t k => XS.iconst A B.x rfl (B.d d16_7) k) ?_
  refine gs (mkF m 9 _ [(.int (3 : Int32)), (.int (0 : Int32)), (.ref b21), (.int (0 : Int32)), (.ref a1)]) (fun T A t k => XS.iloadN A B.x rfl (B.d d16_8) rfl k) ?_
  refine g_metN (c_static B (hw _ (List.mem_of_getElem? (i := 78) rfl)) (hw _ (List.mem_of_getElem? (i := 79) rfl)) (hw _ (List.mem_of_getElem? (i := 76) rfl)) (hw _ (List.mem_of_getElem? (i := 80) rfl)) (by decide) rfl (lenOf pd_285bCI5bBII29I rfl) rfl (Nat.le_of_eq rfl) d16_9 rfl (argsL := [(.ref a1), (.int (0 : Int32)), (.ref b21), (.int (0 : Int32)), (.int (3 : Int32))]) (rest := []) (W := 0) (q := 12)) (n_comp5_3_0 l Z a0 hw hEL a1 b21 kc k21 c0 c1 c2 h21 n0 (PA.ext E21) V21 (by omega) (by omega)  hg) (hw _ (List.mem_of_getElem? (i := 80) rfl)) (hw _ (List.mem_of_getElem? (i := 76) rfl)) (by decide) (by decide) (by decide) (by decide) ?_
  intro v22 h22 hz22 hQ22
  obtain ⟨rfl, K22⟩ := hQ22
  have z22 := K22.1
  refine gs (mkF m 14 #[.val (.ref a1), .val (.int (0 : Int32)), .val (.int (3 : Int32)), .val (.ref b21), .val (.int (0 : Int32)), .unset] []) (fun T A t k => XS.istore A B.x rfl (B.d d16_12) rfl (l' := #[.val (.ref a1), .val (.int (0 : Int32)), .val (.int (3 : Int32)), .val (.ref b21), .val (.int (0 : Int32)), .unset]) rfl k) ?_
  refine gs (mkF m 16 _ [(.int (0 : Int32))]) (fun T A t k => XS.iload A B.x rfl (B.d d16_14) rfl k) ?_
  refine gs (mkF m 17 _ [(.int (3 : Int32)), (.int (0 : Int32))]) (fun T A t k => XS.iloadN A B.x rfl (B.d d16_16) rfl k) ?_
  refine gs (mkF m 20 _ []) (fun T A t k => XS.icmpNo A B.x rfl (B.d d16_17) rfl (feq (by decide : ¬ ((0 : Int32) = (3 : Int32)))).1 k) ?_
  refine gs (mkF m 21 _ [(.ref a1)]) (fun T A t k => XS.aloadN A B.x rfl (B.d d16_20) rfl rfl k) ?_
  refine gs (mkF m 22 _ [(.int (0 : Int32)), (.ref a1)]) (fun T A t k => XS.iloadN A B.x rfl (B.d d16_21) rfl k) ?_
  refine gs (mkF m 23 _ [(.int (3 : Int32)), (.int (0 : Int32)), (.ref a1)]) (fun T A t k => XS.iloadN A B.x rfl (B.d d16_22) rfl k) ?_
  refine g_metN (c_static B (hw _ (List.mem_of_getElem? (i := 90) rfl)) (hw _ (List.mem_of_getElem? (i := 91) rfl)) (hw _ (List.mem_of_getElem? (i := 76) rfl)) (hw _ (List.mem_of_getElem? (i := 92) rfl)) (by decide) rfl (lenOf pd_285bCII295bB rfl) rfl (Nat.le_of_eq rfl) d16_23 rfl (argsL := [(.ref a1), (.int (0 : Int32)), (.int (3 : Int32))]) (rest := []) (W := 0) (q := 26)) (n_tob_3 l Z a0 hw hEL a1 zc rv kc c0 c1 c2 h22 n0 ((PA.ext E21).keep K22 (ninS (by omega : @Ne Nat a1 b21) nin0)) (by omega) (by omega) PX ((PO.ext E21).keep K22 (allS (by omega) all0))) (hw _ (List.mem_of_getElem? (i := 92) rfl)) (hw _ (List.mem_of_getElem? (i := 76) rfl)) (by decide) (by decide) (by decide) (by decide) ?_
  intro v23 h23 hz23 hQ23
  obtain ⟨x23, k23, rfl, K23, g23, V23⟩ := hQ23
  have z23 := K23.1; have y23 : @LT.lt Nat _ x23 h23.size := V23.lt
  refine gs (mkF m 28 #[.val (.ref a1), .val (.int (0 : Int32)), .val (.int (3 : Int32)), .val (.ref b21), .val (.int (0 : Int32)), .val (.ref x23)] []) (fun T A t k => XS.astore A B.x rfl (B.d d16_26) rfl rfl (l' := #[.val (.ref a1), .val (.int (0 : Int32)), .val (.int (3 : Int32)), .val (.ref b21), .val (.int (0 : Int32)), .val (.ref x23)]) rfl k) ?_
  refine gs (mkF m 30 _ [(.ref x23)]) (fun T A t k => XS.aload A B.x rfl (B.d d16_28) rfl rfl k) ?_
  refine gs (mkF m 32 _ [(.int (0 : Int32)), (.ref x23)]) (fun T A t k => XS.iload A B.x rfl (B.d d16_30) rfl k) ?_
  refine g_metN (c_static B (hw _ (List.mem_of_getElem? (i := 106) rfl)) (hw _ (List.mem_of_getElem? (i := 107) rfl)) (hw _ (List.mem_of_getElem? (i := 76) rfl)) (hw _ (List.mem_of_getElem? (i := 108) rfl)) (by decide) rfl (lenOf pd_285bBI29C rfl) rfl (Nat.le_of_eq rfl) d16_32 rfl (argsL := [(.ref x23), (.int (0 : Int32))]) (rest := []) (W := 0) (q := 35)) (n_gc_6_0 l Z a0 hw hEL x23 zc rv k23 c0 c1 c2 h23 n0 V23 hr0 PX (((PO.ext E21).keep K22 (allS (by omega) all0)).keep K23 all0)) (hw _ (List.mem_of_getElem? (i := 108) rfl)) (hw _ (List.mem_of_getElem? (i := 76) rfl)) (by decide) (by decide) (by decide) (by decide) ?_
  intro v24 h24 hz24 hQ24
  obtain ⟨rfl, rfl⟩ := hQ24
  refine gs (mkF m 38 _ [(.int (255 : Int32)), (.int c0)]) (fun T A t k => XS.sipush A B.x rfl (B.d d16_35) k) ?_
  refine gs (mkF m 54 _ []) (fun T A t k => XS.icmpYes A B.x rfl (pc0 := 38) (pc' := 54) rfl (B.d d16_38) rfl (tlt (hg : (255 : Int32) < c0)).2.2.1 (by decide) (by decide) k) ?_
  refine gs (mkF m 56 _ [(.ref x23)]) (fun T A t k => XS.aload A B.x rfl (B.d d16_54) rfl rfl k) ?_
  exact g_retA B rfl rfl d16_56 (by decide) (by decide) ⟨_, _, rfl, ((((Keep.refl h0 []).ext E21).trans K22 (allS (Or.inr (by omega)) all0)).trans K23 all0), (by omega), V23⟩
set_option maxRecDepth 65536 in
set_option maxHeartbeats 40000000 in
theorem n_cfl_3_6 (l : Launch) (Z : State) (a0 : Array Value) (hw : ∀ d ∈ tables_1, d.before a0 Z = true) (hEL : EW Z a0 []) (a1 : Addr) (kb : ClassId) (c0 c1 c2 : Int32) (h0 : Heap) (n0 : Nat) (PA : Arv Z h0 a1 kb .byte (6 : Int32) [(.int (StrChars.lo8 c0)), (.int (StrChars.hi8 c0)), (.int (StrChars.lo8 c1)), (.int (StrChars.hi8 c1)), (.int (StrChars.lo8 c2)), (.int (StrChars.hi8 c2))] (.int (0 : Int32))) :
    Met false Z [] l (⟨"java/lang/StringUTF16", "coderFromArrayLen", "([BI)B"⟩ : MethodName) jdk_52_method_15_code 2 (some .byte) ({ frames := 0, cells := 0, slots := 0, locals := 0 } : Room) #[(.ref a1), (.int (3 : Int32))] h0 [] n0 (fun v h => v = some (.int (1 : Int32)) ∧ h0 = h) := by
  refine Met.of (a0 := a0) (Ls := #[.val (.ref a1), .val (.int (3 : Int32))]) (fun z => rfl) (plainFor_of_name pn_java_lang_StringUTF16) hEL (fun m => by first | (simp [entryFrame, mkF, argsToLocals, Value.category]; done) | rfl) ?_
  intro p e s m below meth c B hSf
  refine gs (mkF m 1 _ [(.int (3 : Int32))]) (fun T A t k => XS.iloadN A B.x rfl (B.d d18_0) rfl k) ?_
  refine gs (mkF m 2 _ [(.ref a1), (.int (3 : Int32))]) (fun T A t k => XS.aloadN A B.x rfl (B.d d18_1) rfl rfl k) ?_
  refine g_len B PA d18_2 (q := 3) rfl ?_
  refine gs (mkF m 4 _ [(.int (-3 : Int32))]) (fun T A t k => XS.isub A B.x rfl (B.d d18_3) rfl k) ?_
  refine gs (mkF m 6 _ [(.int (31 : Int32)), (.int (-3 : Int32))]) (fun T A t k => XS.bipush A B.x rfl (B.d d18_4) k) ?_
  refine gs (mkF m 7 _ [(.int (1 : Int32))]) (fun T A t k => XS.iushr A B.x rfl (B.d d18_6) rfl k) ?_
  refine gs (mkF m 8 _ [(.int (1 : Int32))]) (fun T A t k => XS.i2b A B.x rfl (B.d d18_7) rfl k) ?_
  exact g_retN (t := .byte) B (by simp) d18_8 (by decide) (by decide) ⟨rfl, rfl⟩
set_option maxRecDepth 65536 in
set_option maxHeartbeats 40000000 in
theorem n_comp5_3_1 (l : Launch) (Z : State) (a0 : Array Value) (hw : ∀ d ∈ tables_1, d.before a0 Z = true) (hEL : EW Z a0 []) (a1 : Addr) (a2 : Addr) (kc kb : ClassId) (c0 c1 c2 : Int32) (h0 : Heap) (n0 : Nat) (PA : Arv Z h0 a1 kc .char (3 : Int32) [(.int c0), (.int c1), (.int c2)] (.int (0 : Int32))) (PB : Arv Z h0 a2 kb .byte (3 : Int32) [(.int (0 : Int32)), (.int (0 : Int32)), (.int (0 : Int32))] (.int (0 : Int32))) (hd : @LE.le Nat _ n0 a2) (hne : @Ne Nat a1 a2) (hl0 : ¬ (255 : Int32) < c0) (hg : (255 : Int32) < c1) :
    Met false Z [] l (⟨"java/lang/StringUTF16", "compress", "([CI[BII)I"⟩ : MethodName) jdk_52_method_21_code 7 (some .int) ({ frames := 0, cells := 0, slots := 0, locals := 0 } : Room) #[(.ref a1), (.int (0 : Int32)), (.ref a2), (.int (0 : Int32)), (.int (3 : Int32))] h0 [] n0 (fun v h => v = some (.int (1 : Int32)) ∧ Keep h0 h [a2]) := by
  refine Met.of (a0 := a0) (Ls := #[.val (.ref a1), .val (.int (0 : Int32)), .val (.ref a2), .val (.int (0 : Int32)), .val (.int (3 : Int32)), .unset, .unset]) (fun z => rfl) (plainFor_of_name pn_java_lang_StringUTF16) hEL (fun m => by first | (simp [entryFrame, mkF, argsToLocals, Value.category]; done) | rfl) ?_
  intro p e s m below meth c B hSf
  refine gs (mkF m 1 _ [(.int (0 : Int32))]) (fun T A t k => XS.iconst A B.x rfl (B.d d17_0) k) ?_
  refine gs (mkF m 3 #[.val (.ref a1), .val (.int (0 : Int32)), .val (.ref a2), .val (.int (0 : Int32)), .val (.int (3 : Int32)), .val (.int (0 : Int32)), .unset] []) (fun T A t k => XS.istore A B.x rfl (B.d d17_1) rfl (l' := #[.val (.ref a1), .val (.int (0 : Int32)), .val (.ref a2), .val (.int (0 : Int32)), .val (.int (3 : Int32)), .val (.int (0 : Int32)), .unset]) rfl k) ?_
  refine gs (mkF m 5 _ [(.int (0 : Int32))]) (fun T A t k => XS.iload A B.x rfl (B.d d17_3) rfl k) ?_
  refine gs (mkF m 7 _ [(.int (3 : Int32)), (.int (0 : Int32))]) (fun T A t k => XS.iload A B.x rfl (B.d d17_5) rfl k) ?_
  refine gs (mkF m 10 _ []) (fun T A t k => XS.icmpNo A B.x rfl (B.d d17_7) rfl (tlt (by decide : (0 : Int32) < (3 : Int32))).2.1 k) ?_
  refine gs (mkF m 11 _ [(.ref a1)]) (fun T A t k => XS.aloadN A B.x rfl (B.d d17_10) rfl rfl k) ?_
  refine gs (mkF m 12 _ [(.int (0 : Int32)), (.ref a1)]) (fun T A t k => XS.iloadN A B.x rfl (B.d d17_11) rfl k) ?_
  refine g_ldC B PA ⟨by decide, by decide⟩ (v := (.int c0)) rfl d17_12 (q := 13) rfl ?_
  refine gs (mkF m 15 #[.val (.ref a1), .val (.int (0 : Int32)), .val (.ref a2), .val (.int (0 : Int32)), .val (.int (3 : Int32)), .val (.int (0 : Int32)), .val (.int c0)] []) (fun T A t k => XS.istore A B.x rfl (B.d d17_13) rfl (l' := #[.val (.ref a1), .val (.int (0 : Int32)), .val (.ref a2), .val (.int (0 : Int32)), .val (.int (3 : Int32)), .val (.int (0 : Int32)), .val (.int c0)]) rfl k) ?_
  refine gs (mkF m 17 _ [(.int c0)]) (fun T A t k => XS.iload A B.x rfl (B.d d17_15) rfl k) ?_
  refine gs (mkF m 20 _ [(.int (255 : Int32)), (.int c0)]) (fun T A t k => XS.sipush A B.x rfl (B.d d17_17) k) ?_
  refine gs (mkF m 26 _ []) (fun T A t k => XS.icmpYes A B.x rfl (pc0 := 20) (pc' := 26) rfl (B.d d17_20) rfl (flt (hl0 : ¬ ((255 : Int32) < c0))).2.2.2 (by decide) (by decide) k) ?_
  refine gs (mkF m 27 _ [(.ref a2)]) (fun T A t k => XS.aloadN A B.x rfl (B.d d17_26) rfl rfl k) ?_
  refine gs (mkF m 28 _ [(.int (0 : Int32)), (.ref a2)]) (fun T A t k => XS.iloadN A B.x rfl (B.d d17_27) rfl k) ?_
  refine gs (mkF m 30 _ [(.int c0), (.int (0 : Int32)), (.ref a2)]) (fun T A t k => XS.iload A B.x rfl (B.d d17_28) rfl k) ?_
  refine gs (mkF m 31 _ [(.int (c0.toInt8.toInt32)), (.int (0 : Int32)), (.ref a2)]) (fun T A t k => XS.i2b A B.x rfl (B.d d17_30) rfl k) ?_
  refine g_stB B PB (x' := (StrChars.lo8 c0)) (nb8 _) ⟨by decide, by decide⟩ (i := 0) rfl (Nat.le_of_ble_eq_true rfl) d17_31 nos (by omega) (q := 32) rfl ?_
  intro h21 W21 A21
  have z21 := W21.size
  have V21 : Arv Z h21 a2 kb .byte (3 : Int32) [(.int (StrChars.lo8 c0)), (.int (0 : Int32)), (.int (0 : Int32))] (.int (0 : Int32)) := A21
  refine gs (mkF m 35 #[.val (.ref a1), .val (.int (1 : Int32)), .val (.ref a2), .val (.int (0 : Int32)), .val (.int (3 : Int32)), .val (.int (0 : Int32)), .val (.int c0)] []) (fun T A t k => XS.iinc A B.x rfl (B.d d17_32) rfl (l' := #[.val (.ref a1), .val (.int (1 : Int32)), .val (.ref a2), .val (.int (0 : Int32)), .val (.int (3 : Int32)), .val (.int (0 : Int32)), .val (.int c0)]) rfl k) ?_
  refine gs (mkF m 38 #[.val (.ref a1), .val (.int (1 : Int32)), .val (.ref a2), .val (.int (1 : Int32)), .val (.int (3 : Int32)), .val (.int (0 : Int32)), .val (.int c0)] []) (fun T A t k => XS.iinc A B.x rfl (B.d d17_35) rfl (l' := #[.val (.ref a1), .val (.int (1 : Int32)), .val (.ref a2), .val (.int (1 : Int32)), .val (.int (3 : Int32)), .val (.int (0 : Int32)), .val (.int c0)]) rfl k) ?_
  refine gs (mkF m 41 #[.val (.ref a1), .val (.int (1 : Int32)), .val (.ref a2), .val (.int (1 : Int32)), .val (.int (3 : Int32)), .val (.int (1 : Int32)), .val (.int c0)] []) (fun T A t k => XS.iinc A B.x rfl (B.d d17_38) rfl (l' := #[.val (.ref a1), .val (.int (1 : Int32)), .val (.ref a2), .val (.int (1 : Int32)), .val (.int (3 : Int32)), .val (.int (1 : Int32)), .val (.int c0)]) rfl k) ?_
  refine gs (mkF m 3 _ []) (fun T A t k => XS.goto A B.x rfl (pc0 := 41) (pc' := 3) rfl (B.d d17_41) (by decide) (by decide) k) ?_
  refine gs (mkF m 5 _ [(.int (1 : Int32))]) (fun T A t k => XS.iload A B.x rfl (B.d d17_3) rfl k) ?_
  refine gs (mkF m 7 _ [(.int (3 : Int32)), (.int (1 : Int32))]) (fun T A t k => XS.iload A B.x rfl (B.d d17_5) rfl k) ?_
  refine gs (mkF m 10 _ []) (fun T A t k => XS.icmpNo A B.x rfl (B.d d17_7) rfl (tlt (by decide : (1 : Int32) < (3 : Int32))).2.1 k) ?_
  refine gs (mkF m 11 _ [(.ref a1)]) (fun T A t k => XS.aloadN A B.x rfl (B.d d17_10) rfl rfl k) ?_
  refine gs (mkF m 12 _ [(.int (1 : Int32)), (.ref a1)]) (fun T A t k => XS.iloadN A B.x rfl (B.d d17_11) rfl k) ?_
  refine g_ldC B (PA.other W21 (by omega : @Ne Nat a1 a2)) ⟨by decide, by decide⟩ (v := (.int c1)) rfl d17_12 (q := 13) rfl ?_
  refine gs (mkF m 15 #[.val (.ref a1), .val (.int (1 : Int32)), .val (.ref a2), .val (.int (1 : Int32)), .val (.int (3 : Int32)), .val (.int (1 : Int32)), .val (.int c1)] []) (fun T A t k => XS.istore A B.x rfl (B.d d17_13) rfl (l' := #[.val (.ref a1), .val (.int (1 : Int32)), .val (.ref a2), .val (.int (1 : Int32)), .val (.int (3 : Int32)), .val (.int (1 : Int32)), .val (.int c1)]) rfl k) ?_
  refine gs (mkF m 17 _ [(.int c1)]) (fun T A t k => XS.iload A B.x rfl (B.d d17_15) rfl k) ?_
  refine gs (mkF m 20 _ [(.int (255 : Int32)), (.int c1)]) (fun T A t k => XS.sipush A B.x rfl (B.d d17_17) k) ?_
  refine gs (mkF m 23 _ []) (fun T A t k => XS.icmpNo A B.x rfl (B.d d17_20) rfl (tlt (hg : (255 : Int32) < c1)).2.2.2 k) ?_
  refine gs (mkF m 25 _ [(.int (1 : Int32))]) (fun T A t k => XS.iload A B.x rfl (B.d d17_23) rfl k) ?_
  exact g_retI B d17_25 (by decide) (by decide) ⟨rfl, ((Keep.refl h0 [a2]).wr W21 (Or.inl (by simp)))⟩
set_option maxRecDepth 65536 in
set_option maxHeartbeats 40000000 in
theorem n_gc_6_1 (l : Launch) (Z : State) (a0 : Array Value) (hw : ∀ d ∈ tables_1, d.before a0 Z = true) (hEL : EW Z a0 []) (a1 : Addr) (zc : Int32) (rv : Value) (kb : ClassId) (c0 c1 c2 : Int32) (h0 : Heap) (n0 : Nat) (PA : Arv Z h0 a1 kb .byte (6 : Int32) [(.int (StrChars.lo8 c0)), (.int (StrChars.hi8 c0)), (.int (StrChars.lo8 c1)), (.int (StrChars.hi8 c1)), (.int (StrChars.lo8 c2)), (.int (StrChars.hi8 c2))] (.int (0 : Int32))) (hr : rng c1) (PX : Sts Z zc rv) (PO : Old Z n0 h0) :
    Met false Z [] l (⟨"java/lang/StringUTF16", "getChar", "([BI)C"⟩ : MethodName) jdk_52_method_5_code 2 (some .char) ({ frames := 0, cells := 0, slots := 0, locals := 0 } : Room) #[(.ref a1), (.int (1 : Int32))] h0 [] n0 (fun v h => v = some (.int c1) ∧ h0 = h) := by
  refine Met.of (a0 := a0) (Ls := #[.val (.ref a1), .val (.int (1 : Int32))]) (fun z => rfl) (plainFor_of_name pn_java_lang_StringUTF16) hEL (fun m => by first | (simp [entryFrame, mkF, argsToLocals, Value.category]; done) | rfl) ?_
  intro p e s m below meth c B hSf
  obtain ⟨SC, hzc, SA, SH, SL, SF, rf⟩ := id PX
  refine g_getS B (hw _ (List.mem_of_getElem? (i := 103) rfl)) (SA.ext PO.2) d25_0 (q := 3) rfl ?_
  refine gs (mkF m 28 _ []) (fun T A t k => XS.ifYes A B.x rfl (pc0 := 3) (pc' := 28) rfl (B.d d25_3) rfl ((if0 _ _).trans (feq (by decide : ¬ ((1 : Int32) = (0 : Int32)))).2) (by decide) (by decide) k) ?_
  refine gs (mkF m 29 _ [(.int (1 : Int32))]) (fun T A t k => XS.iloadN A B.x rfl (B.d d25_28) rfl k) ?_
  refine gs (mkF m 30 _ [(.int (1 : Int32)), (.int (1 : Int32))]) (fun T A t k => XS.iconst A B.x rfl (B.d d25_29) k) ?_
  refine gs (mkF m 31 _ [(.int (2 : Int32))]) (fun T A t k => XS.ishl A B.x rfl (B.d d25_30) rfl k) ?_
  refine gs (mkF m 32 #[.val (.ref a1), .val (.int (2 : Int32))] []) (fun T A t k => XS.istoreN A B.x rfl (B.d d25_31) rfl (l' := #[.val (.ref a1), .val (.int (2 : Int32))]) rfl k) ?_
  refine gs (mkF m 33 _ [(.ref a1)]) (fun T A t k => XS.aloadN A B.x rfl (B.d d25_32) rfl rfl k) ?_
  refine gs (mkF m 34 _ [(.int (2 : Int32)), (.ref a1)]) (fun T A t k => XS.iloadN A B.x rfl (B.d d25_33) rfl k) ?_
  refine gs (mkF m 37 #[.val (.ref a1), .val (.int (3 : Int32))] [(.int (2 : Int32)), (.ref a1)]) (fun T A t k => XS.iinc A B.x rfl (B.d d25_34) rfl (l' := #[.val (.ref a1), .val (.int (3 : Int32))]) rfl k) ?_
  refine g_ldB B PA ⟨by decide, by decide⟩ (v := (.int (StrChars.lo8 c1))) rfl d25_37 (q := 38) rfl ?_
  refine gs (mkF m 41 _ [(.int (255 : Int32)), (.int (StrChars.lo8 c1))]) (fun T A t k => XS.sipush A B.x rfl (B.d d25_38) k) ?_
  refine gs (mkF m 42 _ [(.int ((StrChars.lo8 c1) &&& (255 : Int32)))]) (fun T A t k => XS.iand A B.x rfl (B.d d25_41) rfl k) ?_
  refine g_getS B (hw _ (List.mem_of_getElem? (i := 104) rfl)) (SH.ext PO.2) d25_42 (q := 45) rfl ?_
  refine gs (mkF m 46 _ [(.int (((StrChars.lo8 c1) &&& (255 : Int32)) <<< ((0 : Int32) &&& 31)))]) (fun T A t k => XS.ishl A B.x rfl (B.d d25_45) rfl k) ?_
  refine gs (mkF m 47 _ [(.ref a1), (.int (((StrChars.lo8 c1) &&& (255 : Int32)) <<< ((0 : Int32) &&& 31)))]) (fun T A t k => XS.aloadN A B.x rfl (B.d d25_46) rfl rfl k) ?_
  refine gs (mkF m 48 _ [(.int (3 : Int32)), (.ref a1), (.int (((StrChars.lo8 c1) &&& (255 : Int32)) <<< ((0 : Int32) &&& 31)))]) (fun T A t k => XS.iloadN A B.x rfl (B.d d25_47) rfl k) ?_
  refine g_ldB B PA ⟨by decide, by decide⟩ (v := (.int (StrChars.hi8 c1))) rfl d25_48 (q := 49) rfl ?_
  refine gs (mkF m 52 _ [(.int (255 : Int32)), (.int (StrChars.hi8 c1)), (.int (((StrChars.lo8 c1) &&& (255 : Int32)) <<< ((0 : Int32) &&& 31)))]) (fun T A t k => XS.sipush A B.x rfl (B.d d25_49) k) ?_
  refine gs (mkF m 53 _ [(.int ((StrChars.hi8 c1) &&& (255 : Int32))), (.int (((StrChars.lo8 c1) &&& (255 : Int32)) <<< ((0 : Int32) &&& 31)))]) (fun T A t k => XS.iand A B.x rfl (B.d d25_52) rfl k) ?_
  refine g_getS B (hw _ (List.mem_of_getElem? (i := 105) rfl)) (SL.ext PO.2) d25_53 (q := 56) rfl ?_
  refine gs (mkF m 57 _ [(.int (((StrChars.hi8 c1) &&& (255 : Int32)) <<< ((8 : Int32) &&& 31))), (.int (((StrChars.lo8 c1) &&& (255 : Int32)) <<< ((0 : Int32) &&& 31)))]) (fun T A t k => XS.ishl A B.x rfl (B.d d25_56) rfl k) ?_
  refine gs (mkF m 58 _ [(.int ((((StrChars.lo8 c1) &&& (255 : Int32)) <<< ((0 : Int32) &&& 31)) ||| (((StrChars.hi8 c1) &&& (255 : Int32)) <<< ((8 : Int32) &&& 31))))]) (fun T A t k => XS.ior A B.x rfl (B.d d25_57) rfl k) ?_
  refine gs (mkF m 59 _ [(.int (((((StrChars.lo8 c1) &&& (255 : Int32)) <<< ((0 : Int32) &&& 31)) ||| (((StrChars.hi8 c1) &&& (255 : Int32)) <<< ((8 : Int32) &&& 31))).toUInt32.toUInt16.toUInt32.toInt32))]) (fun T A t k => XS.i2c A B.x rfl (B.d d25_58) rfl k) ?_
  exact g_retN (t := .char) B (by simp) d25_59 (by decide) (by decide) ⟨congrArg (fun z => some (Value.int z)) (got_ch hr), rfl⟩
set_option maxRecDepth 65536 in
set_option maxHeartbeats 40000000 in
theorem n_comp3_3_1 (l : Launch) (Z : State) (a0 : Array Value) (hw : ∀ d ∈ tables_1, d.before a0 Z = true) (hEL : EW Z a0 []) (a1 : Addr) (zc : Int32) (rv : Value) (kc : ClassId) (c0 c1 c2 : Int32) (h0 : Heap) (n0 : Nat) (PA : Arv Z h0 a1 kc .char (3 : Int32) [(.int c0), (.int c1), (.int c2)] (.int (0 : Int32))) (hn : @LE.le Nat _ n0 h0.size) (ha : @LT.lt Nat _ a1 h0.size) (hr0 : rng c0) (hr1 : rng c1) (hr2 : rng c2) (hl0 : ¬ (255 : Int32) < c0) (hg : (255 : Int32) < c1) (PX : Sts Z zc rv) (PO : Old Z n0 h0) :
    Met false Z [] l (⟨"java/lang/StringUTF16", "compress", "([CII)[B"⟩ : MethodName) jdk_52_method_16_code 6 (some (.array .byte)) ({ frames := 3, cells := 2, slots := 9, locals := 40 } : Room) #[(.ref a1), (.int (0 : Int32)), (.int (3 : Int32))] h0 [] n0 (fun v h => ∃ (x : Addr) (kb : ClassId), v = some (.ref x) ∧ Keep h0 h [] ∧ @LE.le Nat _ h0.size x ∧ Arv Z h x kb .byte (6 : Int32) [(.int (StrChars.lo8 c0)), (.int (StrChars.hi8 c0)), (.int (StrChars.lo8 c1)), (.int (StrChars.hi8 c1)), (.int (StrChars.lo8 c2)), (.int (StrChars.hi8 c2))] (.int (0 : Int32))) := by
  refine Met.of (a0 := a0) (Ls := #[.val (.ref a1), .val (.int (0 : Int32)), .val (.int (3 : Int32)), .unset, .unset, .unset]) (fun z => rfl) (plainFor_of_name pn_java_lang_StringUTF16) hEL (fun m => by first | (simp [entryFrame, mkF, argsToLocals, Value.category]; done) | rfl) ?_
  intro p e s m below meth c B hSf
  obtain ⟨SC, hzc, SA, SH, SL, SF, rf⟩ := id PX
  refine gs (mkF m 1 _ [(.int (3 : Int32))]) (fun T A t k => XS.iloadN A B.x rfl (B.d d16_0) rfl k) ?_
  refine g_newP B (hw _ (List.mem_of_getElem? (i := 20) rfl)) d16_1 (by decide) (cap := 3) (by decide) (by decide) (by decide) (by decide) (q := 3) rfl ?_
  intro h21 b21 k21 g21 E21 S21 A21
  have z21 := E21.1; have y21 : @LT.lt Nat _ b21 h21.size := A21.lt
  have V21 : Arv Z h21 b21 k21 .byte (3 : Int32) [(.int (0 : Int32)), (.int (0 : Int32)), (.int (0 : Int32))] (.int (0 : Int32)) := A21
  refine gs (mkF m 4 #[.val (.ref a1), .val (.int (0 : Int32)), .val (.int (3 : Int32)), .val (.ref b21), .unset, .unset] []) (fun T A t k => XS.astoreN A B.x rfl (B.d d16_3) rfl rfl (l' := #[.val (.ref a1), .val (.int (0 : Int32)), .val (.int (3 : Int32)), .val (.ref b21), .unset, .unset]) rfl k) ?_
  refine gs (mkF m 5 _ [(.ref a1)]) (fun T A t k => XS.aloadN A B.x rfl (B.d d16_4) rfl rfl k) ?_
  refine gs (mkF m 6 _ [(.int (0 : Int32)), (.ref a1)]) (fun T A t k => XS.iloadN A B.x rfl (B.d d16_5) rfl k) ?_
  refine gs (mkF m 7 _ [(.ref b21), (.int (0 : Int32)), (.ref a1)]) (fun T A t k => XS.aloadN A B.x rfl (B.d d16_6) rfl rfl k) ?_
  refine gs (mkF m 8 _ [(.int (0 : Int32)), (.ref b21), (.int (0 : Int32)), (.ref a1)]) (fun T A t k => XS.iconst A B.x rfl (B.d d16_7) k) ?_
  refine gs (mkF m 9 _ [(.int (3 : Int32)), (.int (0 : Int32)), (.ref b21), (.int (0 : Int32)), (.ref a1)]) (fun T A t k => XS.iloadN A B.x rfl (B.d d16_8) rfl k) ?_
  refine g_metN (c_static B (hw _ (List.mem_of_getElem? (i := 78) rfl)) (hw _ (List.mem_of_getElem? (i := 79) rfl)) (hw _ (List.mem_of_getElem? (i := 76) rfl)) (hw _ (List.mem_of_getElem? (i := 80) rfl)) (by decide) rfl (lenOf pd_285bCI5bBII29I rfl) rfl (Nat.le_of_eq rfl) d16_9 rfl (argsL := [(.ref a1), (.int (0 : Int32)), (.ref b21), (.int (0 : Int32)), (.int (3 : Int32))]) (rest := []) (W := 0) (q := 12)) (n_comp5_3_1 l Z a0 hw hEL a1 b21 kc k21 c0 c1 c2 h21 n0 (PA.ext E21) V21 (by omega) (by omega) hl0 hg) (hw _ (List.mem_of_getElem? (i := 80) rfl)) (hw _ (List.mem_of_getElem? (i := 76) rfl)) (by decide) (by decide) (by decide) (by decide) ?_
  intro v22 h22 hz22 hQ22
  obtain ⟨rfl, K22⟩ := hQ22
  have z22 := K22.1
  refine gs (mkF m 14 #[.val (.ref a1), .val (.int (0 : Int32)), .val (.int (3 : Int32)), .val (.ref b21), .val (.int (1 : Int32)), .unset] []) (fun T A t k => XS.istore A B.x rfl (B.d d16_12) rfl (l' := #[.val (.ref a1), .val (.int (0 : Int32)), .val (.int (3 : Int32)), .val (.ref b21), .val (.int (1 : Int32)), .unset]) rfl k) ?_
  refine gs (mkF m 16 _ [(.int (1 : Int32))]) (fun T A t k => XS.iload A B.x rfl (B.d d16_14) rfl k) ?_
  refine gs (mkF m 17 _ [(.int (3 : Int32)), (.int (1 : Int32))]) (fun T A t k => XS.iloadN A B.x rfl (B.d d16_16) rfl k) ?_
  refine gs (mkF m 20 _ []) (fun T A t k => XS.icmpNo A B.x rfl (B.d d16_17) rfl (feq (by decide : ¬ ((1 : Int32) = (3 : Int32)))).1 k) ?_
  refine gs (mkF m 21 _ [(.ref a1)]) (fun T A t k => XS.aloadN A B.x rfl (B.d d16_20) rfl rfl k) ?_
  refine gs (mkF m 22 _ [(.int (0 : Int32)), (.ref a1)]) (fun T A t k => XS.iloadN A B.x rfl (B.d d16_21) rfl k) ?_
  refine gs (mkF m 23 _ [(.int (3 : Int32)), (.int (0 : Int32)), (.ref a1)]) (fun T A t k => XS.iloadN A B.x rfl (B.d d16_22) rfl k) ?_
  refine g_metN (c_static B (hw _ (List.mem_of_getElem? (i := 90) rfl)) (hw _ (List.mem_of_getElem? (i := 91) rfl)) (hw _ (List.mem_of_getElem? (i := 76) rfl)) (hw _ (List.mem_of_getElem? (i := 92) rfl)) (by decide) rfl (lenOf pd_285bCII295bB rfl) rfl (Nat.le_of_eq rfl) d16_23 rfl (argsL := [(.ref a1), (.int (0 : Int32)), (.int (3 : Int32))]) (rest := []) (W := 0) (q := 26)) (n_tob_3 l Z a0 hw hEL a1 zc rv kc c0 c1 c2 h22 n0 ((PA.ext E21).keep K22 (ninS (by omega : @Ne Nat a1 b21) nin0)) (by omega) (by omega) PX ((PO.ext E21).keep K22 (allS (by omega) all0))) (hw _ (List.mem_of_getElem? (i := 92) rfl)) (hw _ (List.mem_of_getElem? (i := 76) rfl)) (by decide) (by decide) (by decide) (by decide) ?_
  intro v23 h23 hz23 hQ23
  obtain ⟨x23, k23, rfl, K23, g23, V23⟩ := hQ23
  have z23 := K23.1; have y23 : @LT.lt Nat _ x23 h23.size := V23.lt
  refine gs (mkF m 28 #[.val (.ref a1), .val (.int (0 : Int32)), .val (.int (3 : Int32)), .val (.ref b21), .val (.int (1 : Int32)), .val (.ref x23)] []) (fun T A t k => XS.astore A B.x rfl (B.d d16_26) rfl rfl (l' := #[.val (.ref a1), .val (.int (0 : Int32)), .val (.int (3 : Int32)), .val (.ref b21), .val (.int (1 : Int32)), .val (.ref x23)]) rfl k) ?_
  refine gs (mkF m 30 _ [(.ref x23)]) (fun T A t k => XS.aload A B.x rfl (B.d d16_28) rfl rfl k) ?_
  refine gs (mkF m 32 _ [(.int (1 : Int32)), (.ref x23)]) (fun T A t k => XS.iload A B.x rfl (B.d d16_30) rfl k) ?_
  refine g_metN (c_static B (hw _ (List.mem_of_getElem? (i := 106) rfl)) (hw _ (List.mem_of_getElem? (i := 107) rfl)) (hw _ (List.mem_of_getElem? (i := 76) rfl)) (hw _ (List.mem_of_getElem? (i := 108) rfl)) (by decide) rfl (lenOf pd_285bBI29C rfl) rfl (Nat.le_of_eq rfl) d16_32 rfl (argsL := [(.ref x23), (.int (1 : Int32))]) (rest := []) (W := 0) (q := 35)) (n_gc_6_1 l Z a0 hw hEL x23 zc rv k23 c0 c1 c2 h23 n0 V23 hr1 PX (((PO.ext E21).keep K22 (allS (by omega) all0)).keep K23 all0)) (hw _ (List.mem_of_getElem? (i := 108) rfl)) (hw _ (List.mem_of_getElem? (i := 76) rfl)) (by decide) (by decide) (by decide) (by decide) ?_
  intro v24 h24 hz24 hQ24
  obtain ⟨rfl, rfl⟩ := hQ24
  refine gs (mkF m 38 _ [(.int (255 : Int32)), (.int c1)]) (fun T A t k => XS.sipush A B.x rfl (B.d d16_35) k) ?_
  refine gs (mkF m 54 _ []) (fun T A t k => XS.icmpYes A B.x rfl (pc0 := 38) (pc' := 54) rfl (B.d d16_38) rfl (tlt (hg : (255 : Int32) < c1)).2.2.1 (by decide) (by decide) k) ?_
  refine gs (mkF m 56 _ [(.ref x23)]) (fun T A t k => XS.aload A B.x rfl (B.d d16_54) rfl rfl k) ?_
  exact g_retA B rfl rfl d16_56 (by decide) (by decide) ⟨_, _, rfl, ((((Keep.refl h0 []).ext E21).trans K22 (allS (Or.inr (by omega)) all0)).trans K23 all0), (by omega), V23⟩
set_option maxRecDepth 65536 in
set_option maxHeartbeats 40000000 in
theorem n_comp5_3_2 (l : Launch) (Z : State) (a0 : Array Value) (hw : ∀ d ∈ tables_1, d.before a0 Z = true) (hEL : EW Z a0 []) (a1 : Addr) (a2 : Addr) (kc kb : ClassId) (c0 c1 c2 : Int32) (h0 : Heap) (n0 : Nat) (PA : Arv Z h0 a1 kc .char (3 : Int32) [(.int c0), (.int c1), (.int c2)] (.int (0 : Int32))) (PB : Arv Z h0 a2 kb .byte (3 : Int32) [(.int (0 : Int32)), (.int (0 : Int32)), (.int (0 : Int32))] (.int (0 : Int32))) (hd : @LE.le Nat _ n0 a2) (hne : @Ne Nat a1 a2) (hl0 : ¬ (255 : Int32) < c0) (hl1 : ¬ (255 : Int32) < c1) (hg : (255 : Int32) < c2) :
    Met false Z [] l (⟨"java/lang/StringUTF16", "compress", "([CI[BII)I"⟩ : MethodName) jdk_52_method_21_code 7 (some .int) ({ frames := 0, cells := 0, slots := 0, locals := 0 } : Room) #[(.ref a1), (.int (0 : Int32)), (.ref a2), (.int (0 : Int32)), (.int (3 : Int32))] h0 [] n0 (fun v h => v = some (.int (2 : Int32)) ∧ Keep h0 h [a2]) := by
  refine Met.of (a0 := a0) (Ls := #[.val (.ref a1), .val (.int (0 : Int32)), .val (.ref a2), .val (.int (0 : Int32)), .val (.int (3 : Int32)), .unset, .unset]) (fun z => rfl) (plainFor_of_name pn_java_lang_StringUTF16) hEL (fun m => by first | (simp [entryFrame, mkF, argsToLocals, Value.category]; done) | rfl) ?_
  intro p e s m below meth c B hSf
  refine gs (mkF m 1 _ [(.int (0 : Int32))]) (fun T A t k => XS.iconst A B.x rfl (B.d d17_0) k) ?_
  refine gs (mkF m 3 #[.val (.ref a1), .val (.int (0 : Int32)), .val (.ref a2), .val (.int (0 : Int32)), .val (.int (3 : Int32)), .val (.int (0 : Int32)), .unset] []) (fun T A t k => XS.istore A B.x rfl (B.d d17_1) rfl (l' := #[.val (.ref a1), .val (.int (0 : Int32)), .val (.ref a2), .val (.int (0 : Int32)), .val (.int (3 : Int32)), .val (.int (0 : Int32)), .unset]) rfl k) ?_
  refine gs (mkF m 5 _ [(.int (0 : Int32))]) (fun T A t k => XS.iload A B.x rfl (B.d d17_3) rfl k) ?_
  refine gs (mkF m 7 _ [(.int (3 : Int32)), (.int (0 : Int32))]) (fun T A t k => XS.iload A B.x rfl (B.d d17_5) rfl k) ?_
  refine gs (mkF m 10 _ []) (fun T A t k => XS.icmpNo A B.x rfl (B.d d17_7) rfl (tlt (by decide : (0 : Int32) < (3 : Int32))).2.1 k) ?_
  refine gs (mkF m 11 _ [(.ref a1)]) (fun T A t k => XS.aloadN A B.x rfl (B.d d17_10) rfl rfl k) ?_
  refine gs (mkF m 12 _ [(.int (0 : Int32)), (.ref a1)]) (fun T A t k => XS.iloadN A B.x rfl (B.d d17_11) rfl k) ?_
  refine g_ldC B PA ⟨by decide, by decide⟩ (v := (.int c0)) rfl d17_12 (q := 13) rfl ?_
  refine gs (mkF m 15 #[.val (.ref a1), .val (.int (0 : Int32)), .val (.ref a2), .val (.int (0 : Int32)), .val (.int (3 : Int32)), .val (.int (0 : Int32)), .val (.int c0)] []) (fun T A t k => XS.istore A B.x rfl (B.d d17_13) rfl (l' := #[.val (.ref a1), .val (.int (0 : Int32)), .val (.ref a2), .val (.int (0 : Int32)), .val (.int (3 : Int32)), .val (.int (0 : Int32)), .val (.int c0)]) rfl k) ?_
  refine gs (mkF m 17 _ [(.int c0)]) (fun T A t k => XS.iload A B.x rfl (B.d d17_15) rfl k) ?_
  refine gs (mkF m 20 _ [(.int (255 : Int32)), (.int c0)]) (fun T A t k => XS.sipush A B.x rfl (B.d d17_17) k) ?_
  refine gs (mkF m 26 _ []) (fun T A t k => XS.icmpYes A B.x rfl (pc0 := 20) (pc' := 26) rfl (B.d d17_20) rfl (flt (hl0 : ¬ ((255 : Int32) < c0))).2.2.2 (by decide) (by decide) k) ?_
  refine gs (mkF m 27 _ [(.ref a2)]) (fun T A t k => XS.aloadN A B.x rfl (B.d d17_26) rfl rfl k) ?_
  refine gs (mkF m 28 _ [(.int (0 : Int32)), (.ref a2)]) (fun T A t k => XS.iloadN A B.x rfl (B.d d17_27) rfl k) ?_
  refine gs (mkF m 30 _ [(.int c0), (.int (0 : Int32)), (.ref a2)]) (fun T A t k => XS.iload A B.x rfl (B.d d17_28) rfl k) ?_
  refine gs (mkF m 31 _ [(.int (c0.toInt8.toInt32)), (.int (0 : Int32)), (.ref a2)]) (fun T A t k => XS.i2b A B.x rfl (B.d d17_30) rfl k) ?_
  refine g_stB B PB (x' := (StrChars.lo8 c0)) (nb8 _) ⟨by decide, by decide⟩ (i := 0) rfl (Nat.le_of_ble_eq_true rfl) d17_31 nos (by omega) (q := 32) rfl ?_
  intro h21 W21 A21
  have z21 := W21.size
  have V21 : Arv Z h21 a2 kb .byte (3 : Int32) [(.int (StrChars.lo8 c0)), (.int (0 : Int32)), (.int (0 : Int32))] (.int (0 : Int32)) := A21
  refine gs (mkF m 35 #[.val (.ref a1), .val (.int (1 : Int32)), .val (.ref a2), .val (.int (0 : Int32)), .val (.int (3 : Int32)), .val (.int (0 : Int32)), .val (.int c0)] []) (fun T A t k => XS.iinc A B.x rfl (B.d d17_32) rfl (l' := #[.val (.ref a1), .val (.int (1 : Int32)), .val (.ref a2), .val (.int (0 : Int32)), .val (.int (3 : Int32)), .val (.int (0 : Int32)), .val (.int c0)]) rfl k) ?_
  refine gs (mkF m 38 #[.val (.ref a1), .val (.int (1 : Int32)), .val (.ref a2), .val (.int (1 : Int32)), .val (.int (3 : Int32)), .val (.int (0 : Int32)), .val (.int c0)] []) (fun T A t k => XS.iinc A B.x rfl (B.d d17_35) rfl (l' := #[.val (.ref a1), .val (.int (1 : Int32)), .val (.ref a2), .val (.int (1 : Int32)), .val (.int (3 : Int32)), .val (.int (0 : Int32)), .val (.int c0)]) rfl k) ?_
  refine gs (mkF m 41 #[.val (.ref a1), .val (.int (1 : Int32)), .val (.ref a2), .val (.int (1 : Int32)), .val (.int (3 : Int32)), .val (.int (1 : Int32)), .val (.int c0)] []) (fun T A t k => XS.iinc A B.x rfl (B.d d17_38) rfl (l' := #[.val (.ref a1), .val (.int (1 : Int32)), .val (.ref a2), .val (.int (1 : Int32)), .val (.int (3 : Int32)), .val (.int (1 : Int32)), .val (.int c0)]) rfl k) ?_
  refine gs (mkF m 3 _ []) (fun T A t k => XS.goto A B.x rfl (pc0 := 41) (pc' := 3) rfl (B.d d17_41) (by decide) (by decide) k) ?_
  refine gs (mkF m 5 _ [(.int (1 : Int32))]) (fun T A t k => XS.iload A B.x rfl (B.d d17_3) rfl k) ?_
  refine gs (mkF m 7 _ [(.int (3 : Int32)), (.int (1 : Int32))]) (fun T A t k => XS.iload A B.x rfl (B.d d17_5) rfl k) ?_
  refine gs (mkF m 10 _ []) (fun T A t k => XS.icmpNo A B.x rfl (B.d d17_7) rfl (tlt (by decide : (1 : Int32) < (3 : Int32))).2.1 k) ?_
  refine gs (mkF m 11 _ [(.ref a1)]) (fun T A t k => XS.aloadN A B.x rfl (B.d d17_10) rfl rfl k) ?_
  refine gs (mkF m 12 _ [(.int (1 : Int32)), (.ref a1)]) (fun T A t k => XS.iloadN A B.x rfl (B.d d17_11) rfl k) ?_
  refine g_ldC B (PA.other W21 (by omega : @Ne Nat a1 a2)) ⟨by decide, by decide⟩ (v := (.int c1)) rfl d17_12 (q := 13) rfl ?_
  refine gs (mkF m 15 #[.val (.ref a1), .val (.int (1 : Int32)), .val (.ref a2), .val (.int (1 : Int32)), .val (.int (3 : Int32)), .val (.int (1 : Int32)), .val (.int c1)] []) (fun T A t k => XS.istore A B.x rfl (B.d d17_13) rfl (l' := #[.val (.ref a1), .val (.int (1 : Int32)), .val (.ref a2), .val (.int (1 : Int32)), .val (.int (3 : Int32)), .val (.int (1 : Int32)), .val (.int c1)]) rfl k) ?_
  refine gs (mkF m 17 _ [(.int c1)]) (fun T A t k => XS.iload A B.x rfl (B.d d17_15) rfl k) ?_
  refine gs (mkF m 20 _ [(.int (255 : Int32)), (.int c1)]) (fun T A t k => XS.sipush A B.x rfl (B.d d17_17) k) ?_
  refine gs (mkF m 26 _ []) (fun T A t k => XS.icmpYes A B.x rfl (pc0 := 20) (pc' := 26) rfl (B.d d17_20) rfl (flt (hl1 : ¬ ((255 : Int32) < c1))).2.2.2 (by decide) (by decide) k) ?_
  refine gs (mkF m 27 _ [(.ref a2)]) (fun T A t k => XS.aloadN A B.x rfl (B.d d17_26) rfl rfl k) ?_
  refine gs (mkF m 28 _ [(.int (1 : Int32)), (.ref a2)]) (fun T A t k => XS.iloadN A B.x rfl (B.d d17_27) rfl k) ?_
  refine gs (mkF m 30 _ [(.int c1), (.int (1 : Int32)), (.ref a2)]) (fun T A t k => XS.iload A B.x rfl (B.d d17_28) rfl k) ?_
  refine gs (mkF m 31 _ [(.int (c1.toInt8.toInt32)), (.int (1 : Int32)), (.ref a2)]) (fun T A t k => XS.i2b A B.x rfl (B.d d17_30) rfl k) ?_
  refine g_stB B V21 (x' := (StrChars.lo8 c1)) (nb8 _) ⟨by decide, by decide⟩ (i := 1) rfl (Nat.le_of_ble_eq_true rfl) d17_31 nos (by omega) (q := 32) rfl ?_
  intro h22 W22 A22
  have z22 := W22.size
  have V22 : Arv Z h22 a2 kb .byte (3 : Int32) [(.int (StrChars.lo8 c0)), (.int (StrChars.lo8 c1)), (.int (0 : Int32))] (.int (0 : Int32)) := A22
  refine gs (mkF m 35 #[.val (.ref a1), .val (.int (2 : Int32)), .val (.ref a2), .val (.int (1 : Int32)), .val (.int (3 : Int32)), .val (.int (1 : Int32)), .val (.int c1)] []) (fun T A t k => XS.iinc A B.x rfl (B.d d17_32) rfl (l' := #[.val (.ref a1), .val (.int (2 : Int32)), .val (.ref a2), .val (.int (1 : Int32)), .val (.int (3 : Int32)), .val (.int (1 : Int32)), .val (.int c1)]) rfl k) ?_
  refine gs (mkF m 38 #[.val (.ref a1), .val (.int (2 : Int32)), .val (.ref a2), .val (.int (2 : Int32)), .val (.int (3 : Int32)), .val (.int (1 : Int32)), .val (.int c1)] []) (fun T A t k => XS.iinc A B.x rfl (B.d d17_35) rfl (l' := #[.val (.ref a1), .val (.int (2 : Int32)), .val (.ref a2), .val (.int (2 : Int32)), .val (.int (3 : Int32)), .val (.int (1 : Int32)), .val (.int c1)]) rfl k) ?_
  refine gs (mkF m 41 #[.val (.ref a1), .val (.int (2 : Int32)), .val (.ref a2), .val (.int (2 : Int32)), .val (.int (3 : Int32)), .val (.int (2 : Int32)), .val (.int c1)] []) (fun T A t k => XS.iinc A B.x rfl (B.d d17_38) rfl (l' := #[.val (.ref a1), .val (.int (2 : Int32)), .val (.ref a2), .val (.int (2 : Int32)), .val (.int (3 : Int32)), .val (.int (2 : Int32)), .val (.int c1)]) rfl k) ?_
  refine gs (mkF m 3 _ []) (fun T A t k => XS.goto A B.x rfl (pc0 := 41) (pc' := 3) rfl (B.d d17_41) (by decide) (by decide) k) ?_
  refine gs (mkF m 5 _ [(.int (2 : Int32))]) (fun T A t k => XS.iload A B.x rfl (B.d d17_3) rfl k) ?_
  refine gs (mkF m 7 _ [(.int (3 : Int32)), (.int (2 : Int32))]) (fun T A t k => XS.iload A B.x rfl (B.d d17_5) rfl k) ?_
  refine gs (mkF m 10 _ []) (fun T A t k => XS.icmpNo A B.x rfl (B.d d17_7) rfl (tlt (by decide : (2 : Int32) < (3 : Int32))).2.1 k) ?_
  refine gs (mkF m 11 _ [(.ref a1)]) (fun T A t k => XS.aloadN A B.x rfl (B.d d17_10) rfl rfl k) ?_
  refine gs (mkF m 12 _ [(.int (2 : Int32)), (.ref a1)]) (fun T A t k => XS.iloadN A B.x rfl (B.d d17_11) rfl k) ?_
  refine g_ldC B ((PA.other W21 (by omega : @Ne Nat a1 a2)).other W22 (by omega : @Ne Nat a1 a2)) ⟨by decide, by decide⟩ (v := (.int c2)) rfl d17_12 (q := 13) rfl ?_
  refine gs (mkF m 15 #[.val (.ref a1), .val (.int (2 : Int32)), .val (.ref a2), .val (.int (2 : Int32)), .val (.int (3 : Int32)), .val (.int (2 : Int32)), .val (.int c2)] []) (fun T A t k => XS.istore A B.x rfl (B.d d17_13) rfl (l' := #[.val (.ref a1), .val (.int (2 : Int32)), .val (.ref a2), .val (.int (2 : Int32)), .val (.int (3 : Int32)), .val (.int (2 : Int32)), .val (.int c2)]) rfl k) ?_
  refine gs (mkF m 17 _ [(.int c2)]) (fun T A t k => XS.iload A B.x rfl (B.d d17_15) rfl k) ?_
  refine gs (mkF m 20 _ [(.int (255 : Int32)), (.int c2)]) (fun T A t k => XS.sipush A B.x rfl (B.d d17_17) k) ?_
  refine gs (mkF m 23 _ []) (fun T A t k => XS.icmpNo A B.x rfl (B.d d17_20) rfl (tlt (hg : (255 : Int32) < c2)).2.2.2 k) ?_
  refine gs (mkF m 25 _ [(.int (2 : Int32))]) (fun T A t k => XS.iload A B.x rfl (B.d d17_23) rfl k) ?_
  exact g_retI B d17_25 (by decide) (by decide) ⟨rfl, (((Keep.refl h0 [a2]).wr W21 (Or.inl (by simp))).wr W22 (Or.inl (by simp)))⟩
set_option maxRecDepth 65536 in
set_option maxHeartbeats 40000000 in
theorem n_gc_6_2 (l : Launch) (Z : State) (a0 : Array Value) (hw : ∀ d ∈ tables_1, d.before a0 Z = true) (hEL : EW Z a0 []) (a1 : Addr) (zc : Int32) (rv : Value) (kb : ClassId) (c0 c1 c2 : Int32) (h0 : Heap) (n0 : Nat) (PA : Arv Z h0 a1 kb .byte (6 : Int32) [(.int (StrChars.lo8 c0)), (.int (StrChars.hi8 c0)), (.int (StrChars.lo8 c1)), (.int (StrChars.hi8 c1)), (.int (StrChars.lo8 c2)), (.int (StrChars.hi8 c2))] (.int (0 : Int32))) (hr : rng c2) (PX : Sts Z zc rv) (PO : Old Z n0 h0) :
    Met false Z [] l (⟨"java/lang/StringUTF16", "getChar", "([BI)C"⟩ : MethodName) jdk_52_method_5_code 2 (some .char) ({ frames := 0, cells := 0, slots := 0, locals := 0 } : Room) #[(.ref a1), (.int (2 : Int32))] h0 [] n0 (fun v h => v = some (.int c2) ∧ h0 = h) := by
  refine Met.of (a0 := a0) (Ls := #[.val (.ref a1), .val (.int (2 : Int32))]) (fun z => rfl) (plainFor_of_name pn_java_lang_StringUTF16) hEL (fun m => by first | (simp [entryFrame, mkF, argsToLocals, Value.category]; done) | rfl) ?_
  intro p e s m below meth c B hSf
  obtain ⟨SC, hzc, SA, SH, SL, SF, rf⟩ := id PX
  refine g_getS B (hw _ (List.mem_of_getElem? (i := 103) rfl)) (SA.ext PO.2) d25_0 (q := 3) rfl ?_
  refine gs (mkF m 28 _ []) (fun T A t k => XS.ifYes A B.x rfl (pc0 := 3) (pc' := 28) rfl (B.d d25_3) rfl ((if0 _ _).trans (feq (by decide : ¬ ((1 : Int32) = (0 : Int32)))).2) (by decide) (by decide) k) ?_
  refine gs (mkF m 29 _ [(.int (2 : Int32))]) (fun T A t k => XS.iloadN A B.x rfl (B.d d25_28) rfl k) ?_
  refine gs (mkF m 30 _ [(.int (1 : Int32)), (.int (2 : Int32))]) (fun T A t k => XS.iconst A B.x rfl (B.d d25_29) k) ?_
  refine gs (mkF m 31 _ [(.int (4 : Int32))]) (fun T A t k => XS.ishl A B.x rfl (B.d d25_30) rfl k) ?_
  refine gs (mkF m 32 #[.val (.ref a1), .val (.int (4 : Int32))] []) (fun T A t k => XS.istoreN A B.x rfl (B.d d25_31) rfl (l' := #[.val (.ref a1), .val (.int (4 : Int32))]) rfl k) ?_
  refine gs (mkF m 33 _ [(.ref a1)]) (fun T A t k => XS.aloadN A B.x rfl (B.d d25_32) rfl rfl k) ?_
  refine gs (mkF m 34 _ [(.int (4 : Int32)), (.ref a1)]) (fun T A t k => XS.iloadN A B.x rfl (B.d d25_33) rfl k) ?_
  refine gs (mkF m 37 #[.val (.ref a1), .val (.int (5 : Int32))] [(.int (4 : Int32)), (.ref a1)]) (fun T A t k => XS.iinc A B.x rfl (B.d d25_34) rfl (l' := #[.val (.ref a1), .val (.int (5 : Int32))]) rfl k) ?_
  refine g_ldB B PA ⟨by decide, by decide⟩ (v := (.int (StrChars.lo8 c2))) rfl d25_37 (q := 38) rfl ?_
  refine gs (mkF m 41 _ [(.int (255 : Int32)), (.int (StrChars.lo8 c2))]) (fun T A t k => XS.sipush A B.x rfl (B.d d25_38) k) ?_
  refine gs (mkF m 42 _ [(.int ((StrChars.lo8 c2) &&& (255 : Int32)))]) (fun T A t k => XS.iand A B.x rfl (B.d d25_41) rfl k) ?_
  refine g_getS B (hw _ (List.mem_of_getElem? (i := 104) rfl)) (SH.ext PO.2) d25_42 (q := 45) rfl ?_
  refine gs (mkF m 46 _ [(.int (((StrChars.lo8 c2) &&& (255 : Int32)) <<< ((0 : Int32) &&& 31)))]) (fun T A t k => XS.ishl A B.x rfl (B.d d25_45) rfl k) ?_
  refine gs (mkF m 47 _ [(.ref a1), (.int (((StrChars.lo8 c2) &&& (255 : Int32)) <<< ((0 : Int32) &&& 31)))]) (fun T A t k => XS.aloadN A B.x rfl (B.d d25_46) rfl rfl k) ?_
  refine gs (mkF m 48 _ [(.int (5 : Int32)), (.ref a1), (.int (((StrChars.lo8 c2) &&& (255 : Int32)) <<< ((0 : Int32) &&& 31)))]) (fun T A t k => XS.iloadN A B.x rfl (B.d d25_47) rfl k) ?_
  refine g_ldB B PA ⟨by decide, by decide⟩ (v := (.int (StrChars.hi8 c2))) rfl d25_48 (q := 49) rfl ?_
  refine gs (mkF m 52 _ [(.int (255 : Int32)), (.int (StrChars.hi8 c2)), (.int (((StrChars.lo8 c2) &&& (255 : Int32)) <<< ((0 : Int32) &&& 31)))]) (fun T A t k => XS.sipush A B.x rfl (B.d d25_49) k) ?_
  refine gs (mkF m 53 _ [(.int ((StrChars.hi8 c2) &&& (255 : Int32))), (.int (((StrChars.lo8 c2) &&& (255 : Int32)) <<< ((0 : Int32) &&& 31)))]) (fun T A t k => XS.iand A B.x rfl (B.d d25_52) rfl k) ?_
  refine g_getS B (hw _ (List.mem_of_getElem? (i := 105) rfl)) (SL.ext PO.2) d25_53 (q := 56) rfl ?_
  refine gs (mkF m 57 _ [(.int (((StrChars.hi8 c2) &&& (255 : Int32)) <<< ((8 : Int32) &&& 31))), (.int (((StrChars.lo8 c2) &&& (255 : Int32)) <<< ((0 : Int32) &&& 31)))]) (fun T A t k => XS.ishl A B.x rfl (B.d d25_56) rfl k) ?_
  refine gs (mkF m 58 _ [(.int ((((StrChars.lo8 c2) &&& (255 : Int32)) <<< ((0 : Int32) &&& 31)) ||| (((StrChars.hi8 c2) &&& (255 : Int32)) <<< ((8 : Int32) &&& 31))))]) (fun T A t k => XS.ior A B.x rfl (B.d d25_57) rfl k) ?_
  refine gs (mkF m 59 _ [(.int (((((StrChars.lo8 c2) &&& (255 : Int32)) <<< ((0 : Int32) &&& 31)) ||| (((StrChars.hi8 c2) &&& (255 : Int32)) <<< ((8 : Int32) &&& 31))).toUInt32.toUInt16.toUInt32.toInt32))]) (fun T A t k => XS.i2c A B.x rfl (B.d d25_58) rfl k) ?_
  exact g_retN (t := .char) B (by simp) d25_59 (by decide) (by decide) ⟨congrArg (fun z => some (Value.int z)) (got_ch hr), rfl⟩
set_option maxRecDepth 65536 in
set_option maxHeartbeats 40000000 in
theorem n_comp3_3_2 (l : Launch) (Z : State) (a0 : Array Value) (hw : ∀ d ∈ tables_1, d.before a0 Z = true) (hEL : EW Z a0 []) (a1 : Addr) (zc : Int32) (rv : Value) (kc : ClassId) (c0 c1 c2 : Int32) (h0 : Heap) (n0 : Nat) (PA : Arv Z h0 a1 kc .char (3 : Int32) [(.int c0), (.int c1), (.int c2)] (.int (0 : Int32))) (hn : @LE.le Nat _ n0 h0.size) (ha : @LT.lt Nat _ a1 h0.size) (hr0 : rng c0) (hr1 : rng c1) (hr2 : rng c2) (hl0 : ¬ (255 : Int32) < c0) (hl1 : ¬ (255 : Int32) < c1) (hg : (255 : Int32) < c2) (PX : Sts Z zc rv) (PO : Old Z n0 h0) :
    Met false Z [] l (⟨"java/lang/StringUTF16", "compress", "([CII)[B"⟩ : MethodName) jdk_52_method_16_code 6 (some (.array .byte)) ({ frames := 3, cells := 2, slots := 9, locals := 40 } : Room) #[(.ref a1), (.int (0 : Int32)), (.int (3 : Int32))] h0 [] n0 (fun v h => ∃ (x : Addr) (kb : ClassId), v = some (.ref x) ∧ Keep h0 h [] ∧ @LE.le Nat _ h0.size x ∧ Arv Z h x kb .byte (6 : Int32) [(.int (StrChars.lo8 c0)), (.int (StrChars.hi8 c0)), (.int (StrChars.lo8 c1)), (.int (StrChars.hi8 c1)), (.int (StrChars.lo8 c2)), (.int (StrChars.hi8 c2))] (.int (0 : Int32))) := by
  refine Met.of (a0 := a0) (Ls := #[.val (.ref a1), .val (.int (0 : Int32)), .val (.int (3 : Int32)), .unset, .unset, .unset]) (fun z => rfl) (plainFor_of_name pn_java_lang_StringUTF16) hEL (fun m => by first | (simp [entryFrame, mkF, argsToLocals, Value.category]; done) | rfl) ?_
  intro p e s m below meth c B hSf
  obtain ⟨SC, hzc, SA, SH, SL, SF, rf⟩ := id PX
  refine gs (mkF m 1 _ [(.int (3 : Int32))]) (fun T A t k => XS.iloadN A B.x rfl (B.d d16_0) rfl k) ?_
  refine g_newP B (hw _ (List.mem_of_getElem? (i := 20) rfl)) d16_1 (by decide) (cap := 3) (by decide) (by decide) (by decide) (by decide) (q := 3) rfl ?_
  intro h21 b21 k21 g21 E21 S21 A21
  have z21 := E21.1; have y21 : @LT.lt Nat _ b21 h21.size := A21.lt
  have V21 : Arv Z h21 b21 k21 .byte (3 : Int32) [(.int (0 : Int32)), (.int (0 : Int32)), (.int (0 : Int32))] (.int (0 : Int32)) := A21
  refine gs (mkF m 4 #[.val (.ref a1), .val (.int (0 : Int32)), .val (.int (3 : Int32)), .val (.ref b21), .unset, .unset] []) (fun T A t k => XS.astoreN A B.x rfl (B.d d16_3) rfl rfl (l' := #[.val (.ref a1), .val (.int (0 : Int32)), .val (.int (3 : Int32)), .val (.ref b21), .unset, .unset]) rfl k) ?_
  refine gs (mkF m 5 _ [(.ref a1)]) (fun T A t k => XS.aloadN A B.x rfl (B.d d16_4) rfl rfl k) ?_
  refine gs (mkF m 6 _ [(.int (0 : Int32)), (.ref a1)]) (fun T A t k => XS.iloadN A B.x rfl (B.d d16_5) rfl k) ?_
  refine gs (mkF m 7 _ [(.ref b21), (.int (0 : Int32)), (.ref a1)]) (fun T A t k => XS.aloadN A B.x rfl (B.d d16_6) rfl rfl k) ?_
  refine gs (mkF m 8 _ [(.int (0 : Int32)), (.ref b21), (.int (0 : Int32)), (.ref a1)]) (fun T A t k => XS.iconst A B.x rfl (B.d d16_7) k) ?_
  refine gs (mkF m 9 _ [(.int (3 : Int32)), (.int (0 : Int32)), (.ref b21), (.int (0 : Int32)), (.ref a1)]) (fun T A t k => XS.iloadN A B.x rfl (B.d d16_8) rfl k) ?_
  refine g_metN (c_static B (hw _ (List.mem_of_getElem? (i := 78) rfl)) (hw _ (List.mem_of_getElem? (i := 79) rfl)) (hw _ (List.mem_of_getElem? (i := 76) rfl)) (hw _ (List.mem_of_getElem? (i := 80) rfl)) (by decide) rfl (lenOf pd_285bCI5bBII29I rfl) rfl (Nat.le_of_eq rfl) d16_9 rfl (argsL := [(.ref a1), (.int (0 : Int32)), (.ref b21), (.int (0 : Int32)), (.int (3 : Int32))]) (rest := []) (W := 0) (q := 12)) (n_comp5_3_2 l Z a0 hw hEL a1 b21 kc k21 c0 c1 c2 h21 n0 (PA.ext E21) V21 (by omega) (by omega) hl0 hl1 hg) (hw _ (List.mem_of_getElem? (i := 80) rfl)) (hw _ (List.mem_of_getElem? (i := 76) rfl)) (by decide) (by decide) (by decide) (by decide) ?_
  intro v22 h22 hz22 hQ22
  obtain ⟨rfl, K22⟩ := hQ22
  have z22 := K22.1
  refine gs (mkF m 14 #[.val (.ref a1), .val (.int (0 : Int32)), .val (.int (3 : Int32)), .val (.ref b21), .val (.int (2 : Int32)), .unset] []) (fun T A t k => XS.istore A B.x rfl (B.d d16_12) rfl (l' := #[.val (.ref a1), .val (.int (0 : Int32)), .val (.int (3 : Int32)), .val (.ref b21), .val (.int (2 : Int32)), .unset]) rfl k) ?_
  refine gs (mkF m 16 _ [(.int (2 : Int32))]) (fun T A t k => XS.iload A B.x rfl (B.d d16_14) rfl k) ?_
  refine gs (mkF m 17 _ [(.int (3 : Int32)), (.int (2 : Int32))]) (fun T A t k => XS.iloadN A B.x rfl (B.d d16_16) rfl k) ?_
  refine gs (mkF m 20 _ []) (fun T A t k => XS.icmpNo A B.x rfl (B.d d16_17) rfl (feq (by decide : ¬ ((2 : Int32) = (3 : Int32)))).1 k) ?_
  refine gs (mkF m 21 _ [(.ref a1)]) (fun T A t k => XS.aloadN A B.x rfl (B.d d16_20) rfl rfl k) ?_
  refine gs (mkF m 22 _ [(.int (0 : Int32)), (.ref a1)]) (fun T A t k => XS.iloadN A B.x rfl (B.d d16_21) rfl k) ?_
  refine gs (mkF m 23 _ [(.int (3 : Int32)), (.int (0 : Int32)), (.ref a1)]) (fun T A t k => XS.iloadN A B.x rfl (B.d d16_22) rfl k) ?_
  refine g_metN (c_static B (hw _ (List.mem_of_getElem? (i := 90) rfl)) (hw _ (List.mem_of_getElem? (i := 91) rfl)) (hw _ (List.mem_of_getElem? (i := 76) rfl)) (hw _ (List.mem_of_getElem? (i := 92) rfl)) (by decide) rfl (lenOf pd_285bCII295bB rfl) rfl (Nat.le_of_eq rfl) d16_23 rfl (argsL := [(.ref a1), (.int (0 : Int32)), (.int (3 : Int32))]) (rest := []) (W := 0) (q := 26)) (n_tob_3 l Z a0 hw hEL a1 zc rv kc c0 c1 c2 h22 n0 ((PA.ext E21).keep K22 (ninS (by omega : @Ne Nat a1 b21) nin0)) (by omega) (by omega) PX ((PO.ext E21).keep K22 (allS (by omega) all0))) (hw _ (List.mem_of_getElem? (i := 92) rfl)) (hw _ (List.mem_of_getElem? (i := 76) rfl)) (by decide) (by decide) (by decide) (by decide) ?_
  intro v23 h23 hz23 hQ23
  obtain ⟨x23, k23, rfl, K23, g23, V23⟩ := hQ23
  have z23 := K23.1; have y23 : @LT.lt Nat _ x23 h23.size := V23.lt
  refine gs (mkF m 28 #[.val (.ref a1), .val (.int (0 : Int32)), .val (.int (3 : Int32)), .val (.ref b21), .val (.int (2 : Int32)), .val (.ref x23)] []) (fun T A t k => XS.astore A B.x rfl (B.d d16_26) rfl rfl (l' := #[.val (.ref a1), .val (.int (0 : Int32)), .val (.int (3 : Int32)), .val (.ref b21), .val (.int (2 : Int32)), .val (.ref x23)]) rfl k) ?_
  refine gs (mkF m 30 _ [(.ref x23)]) (fun T A t k => XS.aload A B.x rfl (B.d d16_28) rfl rfl k) ?_
  refine gs (mkF m 32 _ [(.int (2 : Int32)), (.ref x23)]) (fun T A t k => XS.iload A B.x rfl (B.d d16_30) rfl k) ?_
  refine g_metN (c_static B (hw _ (List.mem_of_getElem? (i := 106) rfl)) (hw _ (List.mem_of_getElem? (i := 107) rfl)) (hw _ (List.mem_of_getElem? (i := 76) rfl)) (hw _ (List.mem_of_getElem? (i := 108) rfl)) (by decide) rfl (lenOf pd_285bBI29C rfl) rfl (Nat.le_of_eq rfl) d16_32 rfl (argsL := [(.ref x23), (.int (2 : Int32))]) (rest := []) (W := 0) (q := 35)) (n_gc_6_2 l Z a0 hw hEL x23 zc rv k23 c0 c1 c2 h23 n0 V23 hr2 PX (((PO.ext E21).keep K22 (allS (by omega) all0)).keep K23 all0)) (hw _ (List.mem_of_getElem? (i := 108) rfl)) (hw _ (List.mem_of_getElem? (i := 76) rfl)) (by decide) (by decide) (by decide) (by decide) ?_
  intro v24 h24 hz24 hQ24
  obtain ⟨rfl, rfl⟩ := hQ24
  refine gs (mkF m 38 _ [(.int (255 : Int32)), (.int c2)]) (fun T A t k => XS.sipush A B.x rfl (B.d d16_35) k) ?_
  refine gs (mkF m 54 _ []) (fun T A t k => XS.icmpYes A B.x rfl (pc0 := 38) (pc' := 54) rfl (B.d d16_38) rfl (tlt (hg : (255 : Int32) < c2)).2.2.1 (by decide) (by decide) k) ?_
  refine gs (mkF m 56 _ [(.ref x23)]) (fun T A t k => XS.aload A B.x rfl (B.d d16_54) rfl rfl k) ?_
  exact g_retA B rfl rfl d16_56 (by decide) (by decide) ⟨_, _, rfl, ((((Keep.refl h0 []).ext E21).trans K22 (allS (Or.inr (by omega)) all0)).trans K23 all0), (by omega), V23⟩
set_option maxRecDepth 65536 in
set_option maxHeartbeats 40000000 in
theorem n_comp5_3_3 (l : Launch) (Z : State) (a0 : Array Value) (hw : ∀ d ∈ tables_1, d.before a0 Z = true) (hEL : EW Z a0 []) (a1 : Addr) (a2 : Addr) (kc kb : ClassId) (c0 c1 c2 : Int32) (h0 : Heap) (n0 : Nat) (PA : Arv Z h0 a1 kc .char (3 : Int32) [(.int c0), (.int c1), (.int c2)] (.int (0 : Int32))) (PB : Arv Z h0 a2 kb .byte (3 : Int32) [(.int (0 : Int32)), (.int (0 : Int32)), (.int (0 : Int32))] (.int (0 : Int32))) (hd : @LE.le Nat _ n0 a2) (hne : @Ne Nat a1 a2) (hl0 : ¬ (255 : Int32) < c0) (hl1 : ¬ (255 : Int32) < c1) (hl2 : ¬ (255 : Int32) < c2) :
    Met false Z [] l (⟨"java/lang/StringUTF16", "compress", "([CI[BII)I"⟩ : MethodName) jdk_52_method_21_code 7 (some .int) ({ frames := 0, cells := 0, slots := 0, locals := 0 } : Room) #[(.ref a1), (.int (0 : Int32)), (.ref a2), (.int (0 : Int32)), (.int (3 : Int32))] h0 [] n0 (fun v h => v = some (.int (3 : Int32)) ∧ Keep h0 h [a2] ∧ Arv Z h a2 kb .byte (3 : Int32) [(.int (StrChars.lo8 c0)), (.int (StrChars.lo8 c1)), (.int (StrChars.lo8 c2))] (.int (0 : Int32))) := by
  refine Met.of (a0 := a0) (Ls := #[.val (.ref a1), .val (.int (0 : Int32)), .val (.ref a2), .val (.int (0 : Int32)), .val (.int (3 : Int32)), .unset, .unset]) (fun z => rfl) (plainFor_of_name pn_java_lang_StringUTF16) hEL (fun m => by first | (simp [entryFrame, mkF, argsToLocals, Value.category]; done) | rfl) ?_
  intro p e s m below meth c B hSf
  refine gs (mkF m 1 _ [(.int (0 : Int32))]) (fun T A t k => XS.iconst A B.x rfl (B.d d17_0) k) ?_
  refine gs (mkF m 3 #[.val (.ref a1), .val (.int (0 : Int32)), .val (.ref a2), .val (.int (0 : Int32)), .val (.int (3 : Int32)), .val (.int (0 : Int32)), .unset] []) (fun T A t k => XS.istore A B.x rfl (B.d d17_1) rfl (l' := #[.val (.ref a1), .val (.int (0 : Int32)), .val (.ref a2), .val (.int (0 : Int32)), .val (.int (3 : Int32)), .val (.int (0 : Int32)), .unset]) rfl k) ?_
  refine gs (mkF m 5 _ [(.int (0 : Int32))]) (fun T A t k => XS.iload A B.x rfl (B.d d17_3) rfl k) ?_
  refine gs (mkF m 7 _ [(.int (3 : Int32)), (.int (0 : Int32))]) (fun T A t k => XS.iload A B.x rfl (B.d d17_5) rfl k) ?_
  refine gs (mkF m 10 _ []) (fun T A t k => XS.icmpNo A B.x rfl (B.d d17_7) rfl (tlt (by decide : (0 : Int32) < (3 : Int32))).2.1 k) ?_
  refine gs (mkF m 11 _ [(.ref a1)]) (fun T A t k => XS.aloadN A B.x rfl (B.d d17_10) rfl rfl k) ?_
  refine gs (mkF m 12 _ [(.int (0 : Int32)), (.ref a1)]) (fun T A t k => XS.iloadN A B.x rfl (B.d d17_11) rfl k) ?_
  refine g_ldC B PA ⟨by decide, by decide⟩ (v := (.int c0)) rfl d17_12 (q := 13) rfl ?_
  refine gs (mkF m 15 #[.val (.ref a1), .val (.int (0 : Int32)), .val (.ref a2), .val (.int (0 : Int32)), .val (.int (3 : Int32)), .val (.int (0 : Int32)), .val (.int c0)] []) (fun T A t k => XS.istore A B.x rfl (B.d d17_13) rfl (l' := #[.val (.ref a1), .val (.int (0 : Int32)), .val (.ref a2), .val (.int (0 : Int32)), .val (.int (3 : Int32)), .val (.int (0 : Int32)), .val (.int c0)]) rfl k) ?_
  refine gs (mkF m 17 _ [(.int c0)]) (fun T A t k => XS.iload A B.x rfl (B.d d17_15) rfl k) ?_
  refine gs (mkF m 20 _ [(.int (255 : Int32)), (.int c0)]) (fun T A t k => XS.sipush A B.x rfl (B.d d17_17) k) ?_
  refine gs (mkF m 26 _ []) (fun T A t k => XS.icmpYes A B.x rfl (pc0 := 20) (pc' := 26) rfl (B.d d17_20) rfl (flt (hl0 : ¬ ((255 : Int32) < c0))).2.2.2 (by decide) (by decide) k) ?_
  refine gs (mkF m 27 _ [(.ref a2)]) (fun T A t k => XS.aloadN A B.x rfl (B.d d17_26) rfl rfl k) ?_
  refine gs (mkF m 28 _ [(.int (0 : Int32)), (.ref a2)]) (fun T A t k => XS.iloadN A B.x rfl (B.d d17_27) rfl k) ?_
  refine gs (mkF m 30 _ [(.int c0), (.int (0 : Int32)), (.ref a2)]) (fun T A t k => XS.iload A B.x rfl (B.d d17_28) rfl k) ?_
  refine gs (mkF m 31 _ [(.int (c0.toInt8.toInt32)), (.int (0 : Int32)), (.ref a2)]) (fun T A t k => XS.i2b A B.x rfl (B.d d17_30) rfl k) ?_
  refine g_stB B PB (x' := (StrChars.lo8 c0)) (nb8 _) ⟨by decide, by decide⟩ (i := 0) rfl (Nat.le_of_ble_eq_true rfl) d17_31 nos (by omega) (q := 32) rfl ?_
  intro h21 W21 A21
  have z21 := W21.size
  have V21 : Arv Z h21 a2 kb .byte (3 : Int32) [(.int (StrChars.lo8 c0)), (.int (0 : Int32)), (.int (0 : Int32))] (.int (0 : Int32)) := A21
  refine gs (mkF m 35 #[.val (.ref a1), .val (.int (1 : Int32)), .val (.ref a2), .val (.int (0 : Int32)), .val (.int (3 : Int32)), .val (.int (0 : Int32)), .val (.int c0)] []) (fun T A t k => XS.iinc A B.x rfl (B.d d17_32) rfl (l' := #[.val (.ref a1), .val (.int (1 : Int32)), .val (.ref a2), .val (.int (0 : Int32)), .val (.int (3 : Int32)), .val (.int (0 : Int32)), .val (.int c0)]) rfl k) ?_
  refine gs (mkF m 38 #[.val (.ref a1), .val (.int (1 : Int32)), .val (.ref a2), .val (.int (1 : Int32)), .val (.int (3 : Int32)), .val (.int (0 : Int32)), .val (.int c0)] []) (fun T A t k => XS.iinc A B.x rfl (B.d d17_35) rfl (l' := #[.val (.ref a1), .val (.int (1 : Int32)), .val (.ref a2), .val (.int (1 : Int32)), .val (.int (3 : Int32)), .val (.int (0 : Int32)), .val (.int c0)]) rfl k) ?_
  refine gs (mkF m 41 #[.val (.ref a1), .val (.int (1 : Int32)), .val (.ref a2), .val (.int (1 : Int32)), .val (.int (3 : Int32)), .val (.int (1 : Int32)), .val (.int c0)] []) (fun T A t k => XS.iinc A B.x rfl (B.d d17_38) rfl (l' := #[.val (.ref a1), .val (.int (1 : Int32)), .val (.ref a2), .val (.int (1 : Int32)), .val (.int (3 : Int32)), .val (.int (1 : Int32)), .val (.int c0)]) rfl k) ?_
  refine gs (mkF m 3 _ []) (fun T A t k => XS.goto A B.x rfl (pc0 := 41) (pc' := 3) rfl (B.d d17_41) (by decide) (by decide) k) ?_
  refine gs (mkF m 5 _ [(.int (1 : Int32))]) (fun T A t k => XS.iload A B.x rfl (B.d d17_3) rfl k) ?_
  refine gs (mkF m 7 _ [(.int (3 : Int32)), (.int (1 : Int32))]) (fun T A t k => XS.iload A B.x rfl (B.d d17_5) rfl k) ?_
  refine gs (mkF m 10 _ []) (fun T A t k => XS.icmpNo A B.x rfl (B.d d17_7) rfl (tlt (by decide : (1 : Int32) < (3 : Int32))).2.1 k) ?_
  refine gs (mkF m 11 _ [(.ref a1)]) (fun T A t k => XS.aloadN A B.x rfl (B.d d17_10) rfl rfl k) ?_
  refine gs (mkF m 12 _ [(.int (1 : Int32)), (.ref a1)]) (fun T A t k => XS.iloadN A B.x rfl (B.d d17_11) rfl k) ?_
  refine g_ldC B (PA.other W21 (by omega : @Ne Nat a1 a2)) ⟨by decide, by decide⟩ (v := (.int c1)) rfl d17_12 (q := 13) rfl ?_
  refine gs (mkF m 15 #[.val (.ref a1), .val (.int (1 : Int32)), .val (.ref a2), .val (.int (1 : Int32)), .val (.int (3 : Int32)), .val (.int (1 : Int32)), .val (.int c1)] []) (fun T A t k => XS.istore A B.x rfl (B.d d17_13) rfl (l' := #[.val (.ref a1), .val (.int (1 : Int32)), .val (.ref a2), .val (.int (1 : Int32)), .val (.int (3 : Int32)), .val (.int (1 : Int32)), .val (.int c1)]) rfl k) ?_
  refine gs (mkF m 17 _ [(.int c1)]) (fun T A t k => XS.iload A B.x rfl (B.d d17_15) rfl k) ?_
  refine gs (mkF m 20 _ [(.int (255 : Int32)), (.int c1)]) (fun T A t k => XS.sipush A B.x rfl (B.d d17_17) k) ?_
  refine gs (mkF m 26 _ []) (fun T A t k => XS.icmpYes A B.x rfl (pc0 := 20) (pc' := 26) rfl (B.d d17_20) rfl (flt (hl1 : ¬ ((255 : Int32) < c1))).2.2.2 (by decide) (by decide) k) ?_
  refine gs (mkF m 27 _ [(.ref a2)]) (fun T A t k => XS.aloadN A B.x rfl (B.d d17_26) rfl rfl k) ?_
  refine gs (mkF m 28 _ [(.int (1 : Int32)), (.ref a2)]) (fun T A t k => XS.iloadN A B.x rfl (B.d d17_27) rfl k) ?_
  refine gs (mkF m 30 _ [(.int c1), (.int (1 : Int32)), (.ref a2)]) (fun T A t k => XS.iload A B.x rfl (B.d d17_28) rfl k) ?_
  refine gs (mkF m 31 _ [(.int (c1.toInt8.toInt32)), (.int (1 : Int32)), (.ref a2)]) (fun T A t k => XS.i2b A B.x rfl (B.d d17_30) rfl k) ?_
  refine g_stB B V21 (x' := (StrChars.lo8 c1)) (nb8 _) ⟨by decide, by decide⟩ (i := 1) rfl (Nat.le_of_ble_eq_true rfl) d17_31 nos (by omega) (q := 32) rfl ?_
  intro h22 W22 A22
  have z22 := W22.size
  have V22 : Arv Z h22 a2 kb .byte (3 : Int32) [(.int (StrChars.lo8 c0)), (.int (StrChars.lo8 c1)), (.int (0 : Int32))] (.int (0 : Int32)) := A22
  refine gs (mkF m 35 #[.val (.ref a1), .val (.int (2 : Int32)), .val (.ref a2), .val (.int (1 : Int32)), .val (.int (3 : Int32)), .val (.int (1 : Int32)), .val (.int c1)] []) (fun T A t k => XS.iinc A B.x rfl (B.d d17_32) rfl (l' := #[.val (.ref a1), .val (.int (2 : Int32)), .val (.ref a2), .val (.int (1 : Int32)), .val (.int (3 : Int32)), .val (.int (1 : Int32)), .val (.int c1)]) rfl k) ?_
  refine gs (mkF m 38 #[.val (.ref a1), .val (.int (2 : Int32)), .val (.ref a2), .val (.int (2 : Int32)), .val (.int (3 : Int32)), .val (.int (1 : Int32)), .val (.int c1)] []) (fun T A t k => XS.iinc A B.x rfl (B.d d17_35) rfl (l' := #[.val (.ref a1), .val (.int (2 : Int32)), .val (.ref a2), .val (.int (2 : Int32)), .val (.int (3 : Int32)), .val (.int (1 : Int32)), .val (.int c1)]) rfl k) ?_
  refine gs (mkF m 41 #[.val (.ref a1), .val (.int (2 : Int32)), .val (.ref a2), .val (.int (2 : Int32)), .val (.int (3 : Int32)), .val (.int (2 : Int32)), .val (.int c1)] []) (fun T A t k => XS.iinc A B.x rfl (B.d d17_38) rfl (l' := #[.val (.ref a1), .val (.int (2 : Int32)), .val (.ref a2), .val (.int (2 : Int32)), .val (.int (3 : Int32)), .val (.int (2 : Int32)), .val (.int c1)]) rfl k) ?_
  refine gs (mkF m 3 _ []) (fun T A t k => XS.goto A B.x rfl (pc0 := 41) (pc' := 3) rfl (B.d d17_41) (by decide) (by decide) k) ?_
  refine gs (mkF m 5 _ [(.int (2 : Int32))]) (fun T A t k => XS.iload A B.x rfl (B.d d17_3) rfl k) ?_
  refine gs (mkF m 7 _ [(.int (3 : Int32)), (.int (2 : Int32))]) (fun T A t k => XS.iload A B.x rfl (B.d d17_5) rfl k) ?_
  refine gs (mkF m 10 _ []) (fun T A t k => XS.icmpNo A B.x rfl (B.d d17_7) rfl (tlt (by decide : (2 : Int32) < (3 : Int32))).2.1 k) ?_
  refine gs (mkF m 11 _ [(.ref a1)]) (fun T A t k => XS.aloadN A B.x rfl (B.d d17_10) rfl rfl k) ?_
  refine gs (mkF m 12 _ [(.int (2 : Int32)), (.ref a1)]) (fun T A t k => XS.iloadN A B.x rfl (B.d d17_11) rfl k) ?_
  refine g_ldC B ((PA.other W21 (by omega : @Ne Nat a1 a2)).other W22 (by omega : @Ne Nat a1 a2)) ⟨by decide, by decide⟩ (v := (.int c2)) rfl d17_12 (q := 13) rfl ?_
  refine gs (mkF m 15 #[.val (.ref a1), .val (.int (2 : Int32)), .val (.ref a2), .val (.int (2 : Int32)), .val (.int (3 : Int32)), .val (.int (2 : Int32)), .val (.int c2)] []) (fun T A t k => XS.istore A B.x rfl (B.d d17_13) rfl (l' := #[.val (.ref a1), .val (.int (2 : Int32)), .val (.ref a2), .val (.int (2 : Int32)), .val (.int (3 : Int32)), .val (.int (2 : Int32)), .val (.int c2)]) rfl k) ?_
  refine gs (mkF m 17 _ [(.int c2)]) (fun T A t k => XS.iload A B.x rfl (B.d d17_15) rfl k) ?_
  refine gs (mkF m 20 _ [(.int (255 : Int32)), (.int c2)]) (fun T A t k => XS.sipush A B.x rfl (B.d d17_17) k) ?_
  refine gs (mkF m 26 _ []) (fun T A t k => XS.icmpYes A B.x rfl (pc0 := 20) (pc' := 26) rfl (B.d d17_20) rfl (flt (hl2 : ¬ ((255 : Int32) < c2))).2.2.2 (by decide) (by decide) k) ?_
  refine gs (mkF m 27 _ [(.ref a2)]) (fun T A t k => XS.aloadN A B.x rfl (B.d d17_26) rfl rfl k) ?_
  refine gs (mkF m 28 _ [(.int (2 : Int32)), (.ref a2)]) (fun T A t k => XS.iloadN A B.x rfl (B.d d17_27) rfl k) ?_
  refine gs (mkF m 30 _ [(.int c2), (.int (2 : Int32)), (.ref a2)]) (fun T A t k => XS.iload A B.x rfl (B.d d17_28) rfl k) ?_
  refine gs (mkF m 31 _ [(.int (c2.toInt8.toInt32)), (.int (2 : Int32)), (.ref a2)]) (fun T A t k => XS.i2b A B.x rfl (B.d d17_30) rfl k) ?_
  refine g_stB B V22 (x' := (StrChars.lo8 c2)) (nb8 _) ⟨by decide, by decide⟩ (i := 2) rfl (Nat.le_of_ble_eq_true rfl) d17_31 nos (by omega) (q := 32) rfl ?_
  intro h23 W23 A23
  have z23 := W23.size
  have V23 : Arv Z h23 a2 kb .byte (3 : Int32) [(.int (StrChars.lo8 c0)), (.int (StrChars.lo8 c1)), (.int (StrChars.lo8 c2))] (.int (0 : Int32)) := A23
  refine gs (mkF m 35 #[.val (.ref a1), .val (.int (3 : Int32)), .val (.ref a2), .val (.int (2 : Int32)), .val (.int (3 : Int32)), .val (.int (2 : Int32)), .val (.int c2)] []) (fun T A t k => XS.iinc A B.x rfl (B.d d17_32) rfl (l' := #[.val (.ref a1), .val (.int (3 : Int32)), .val (.ref a2), .val (.int (2 : Int32)), .val (.int (3 : Int32)), .val (.int (2 : Int32)), .val (.int c2)]) rfl k) ?_
  refine gs (mkF m 38 #[.val (.ref a1), .val (.int (3 : Int32)), .val (.ref a2), .val (.int (3 : Int32)), .val (.int (3 : Int32)), .val (.int (2 : Int32)), .val (.int c2)] []) (fun T A t k => XS.iinc A B.x rfl (B.d d17_35) rfl (l' := #[.val (.ref a1), .val (.int (3 : Int32)), .val (.ref a2), .val (.int (3 : Int32)), .val (.int (3 : Int32)), .val (.int (2 : Int32)), .val (.int c2)]) rfl k) ?_
  refine gs (mkF m 41 #[.val (.ref a1), .val (.int (3 : Int32)), .val (.ref a2), .val (.int (3 : Int32)), .val (.int (3 : Int32)), .val (.int (3 : Int32)), .val (.int c2)] []) (fun T A t k => XS.iinc A B.x rfl (B.d d17_38) rfl (l' := #[.val (.ref a1), .val (.int (3 : Int32)), .val (.ref a2), .val (.int (3 : Int32)), .val (.int (3 : Int32)), .val (.int (3 : Int32)), .val (.int c2)]) rfl k) ?_
  refine gs (mkF m 3 _ []) (fun T A t k => XS.goto A B.x rfl (pc0 := 41) (pc' := 3) rfl (B.d d17_41) (by decide) (by decide) k) ?_
  refine gs (mkF m 5 _ [(.int (3 : Int32))]) (fun T A t k => XS.iload A B.x rfl (B.d d17_3) rfl k) ?_
  refine gs (mkF m 7 _ [(.int (3 : Int32)), (.int (3 : Int32))]) (fun T A t k => XS.iload A B.x rfl (B.d d17_5) rfl k) ?_
  refine gs (mkF m 44 _ []) (fun T A t k => XS.icmpYes A B.x rfl (pc0 := 7) (pc' := 44) rfl (B.d d17_7) rfl (flt (by decide : ¬ ((3 : Int32) < (3 : Int32)))).2.1 (by decide) (by decide) k) ?_
  refine gs (mkF m 46 _ [(.int (3 : Int32))]) (fun T A t k => XS.iload A B.x rfl (B.d d17_44) rfl k) ?_
  exact g_retI B d17_46 (by decide) (by decide) ⟨rfl, ((((Keep.refl h0 [a2]).wr W21 (Or.inl (by simp))).wr W22 (Or.inl (by simp))).wr W23 (Or.inl (by simp))), V23⟩
set_option maxRecDepth 65536 in
set_option maxHeartbeats 40000000 in
theorem n_comp3_3_3 (l : Launch) (Z : State) (a0 : Array Value) (hw : ∀ d ∈ tables_1, d.before a0 Z = true) (hEL : EW Z a0 []) (a1 : Addr) (zc : Int32) (rv : Value) (kc : ClassId) (c0 c1 c2 : Int32) (h0 : Heap) (n0 : Nat) (PA : Arv Z h0 a1 kc .char (3 : Int32) [(.int c0), (.int c1), (.int c2)] (.int (0 : Int32))) (hn : @LE.le Nat _ n0 h0.size) (ha : @LT.lt Nat _ a1 h0.size) (hr0 : rng c0) (hr1 : rng c1) (hr2 : rng c2) (hl0 : ¬ (255 : Int32) < c0) (hl1 : ¬ (255 : Int32) < c1) (hl2 : ¬ (255 : Int32) < c2) (PX : Sts Z zc rv) (PO : Old Z n0 h0) :
    Met false Z [] l (⟨"java/lang/StringUTF16", "compress", "([CII)[B"⟩ : MethodName) jdk_52_method_16_code 6 (some (.array .byte)) ({ frames := 1, cells := 1, slots := 3, locals := 18 } : Room) #[(.ref a1), (.int (0 : Int32)), (.int (3 : Int32))] h0 [] n0 (fun v h => ∃ (x : Addr) (kb : ClassId), v = some (.ref x) ∧ Keep h0 h [] ∧ @LE.le Nat _ h0.size x ∧ Arv Z h x kb .byte (3 : Int32) [(.int (StrChars.lo8 c0)), (.int (StrChars.lo8 c1)), (.int (StrChars.lo8 c2))] (.int (0 : Int32))) := by
  refine Met.of (a0 := a0) (Ls := #[.val (.ref a1), .val (.int (0 : Int32)), .val (.int (3 : Int32)), .unset, .unset, .unset]) (fun z => rfl) (plainFor_of_name pn_java_lang_StringUTF16) hEL (fun m => by first | (simp [entryFrame, mkF, argsToLocals, Value.category]; done) | rfl) ?_
  intro p e s m below meth c B hSf
  obtain ⟨SC, hzc, SA, SH, SL, SF, rf⟩ := id PX
  refine gs (mkF m 1 _ [(.int (3 : Int32))]) (fun T A t k => XS.iloadN A B.x rfl (B.d d16_0) rfl k) ?_
  refine g_newP B (hw _ (List.mem_of_getElem? (i := 20) rfl)) d16_1 (by decide) (cap := 3) (by decide) (by decide) (by decide) (by decide) (q := 3) rfl ?_
  intro h21 b21 k21 g21 E21 S21 A21
  have z21 := E21.1; have y21 : @LT.lt Nat _ b21 h21.size := A21.lt
  have V21 : Arv Z h21 b21 k21 .byte (3 : Int32) [(.int (0 : Int32)), (.int (0 : Int32)), (.int (0 : Int32))] (.int (0 : Int32)) := A21
  refine gs (mkF m 4 #[.val (.ref a1), .val (.int (0 : Int32)), .val (.int (3 : Int32)), .val (.ref b21), .unset, .unset] []) (fun T A t k => XS.astoreN A B.x rfl (B.d d16_3) rfl rfl (l' := #[.val (.ref a1), .val (.int (0 : Int32)), .val (.int (3 : Int32)), .val (.ref b21), .unset, .unset]) rfl k) ?_
  refine gs (mkF m 5 _ [(.ref a1)]) (fun T A t k => XS.aloadN A B.x rfl (B.d d16_4) rfl rfl k) ?_
  refine gs (mkF m 6 _ [(.int (0 : Int32)), (.ref a1)]) (fun T A t k => XS.iloadN A B.x rfl (B.d d16_5) rfl k) ?_
  refine gs (mkF m 7 _ [(.ref b21), (.int (0 : Int32)), (.ref a1)]) (fun T A t k => XS.aloadN A B.x rfl (B.d d16_6) rfl rfl k) ?_
  refine gs (mkF m 8 _ [(.int (0 : Int32)), (.ref b21), (.int (0 : Int32)), (.ref a1)]) (fun T A t k => XS.iconst A B.x rfl (B.d d16_7) k) ?_
  refine gs (mkF m 9 _ [(.int (3 : Int32)), (.int (0 : Int32)), (.ref b21), (.int (0 : Int32)), (.ref a1)]) (fun T A t k => XS.iloadN A B.x rfl (B.d d16_8) rfl k) ?_
  refine g_metN (c_static B (hw _ (List.mem_of_getElem? (i := 78) rfl)) (hw _ (List.mem_of_getElem? (i := 79) rfl)) (hw _ (List.mem_of_getElem? (i := 76) rfl)) (hw _ (List.mem_of_getElem? (i := 80) rfl)) (by decide) rfl (lenOf pd_285bCI5bBII29I rfl) rfl (Nat.le_of_eq rfl) d16_9 rfl (argsL := [(.ref a1), (.int (0 : Int32)), (.ref b21), (.int (0 : Int32)), (.int (3 : Int32))]) (rest := []) (W := 0) (q := 12)) (n_comp5_3_3 l Z a0 hw hEL a1 b21 kc k21 c0 c1 c2 h21 n0 (PA.ext E21) V21 (by omega) (by omega) hl0 hl1 hl2) (hw _ (List.mem_of_getElem? (i := 80) rfl)) (hw _ (List.mem_of_getElem? (i := 76) rfl)) (by decide) (by decide) (by decide) (by decide) ?_
  intro v22 h22 hz22 hQ22
  obtain ⟨rfl, K22, V22⟩ := hQ22
  have z22 := K22.1
  refine gs (mkF m 14 #[.val (.ref a1), .val (.int (0 : Int32)), .val (.int (3 : Int32)), .val (.ref b21), .val (.int (3 : Int32)), .unset] []) (fun T A t k => XS.istore A B.x rfl (B.d d16_12) rfl (l' := #[.val (.ref a1), .val (.int (0 : Int32)), .val (.int (3 : Int32)), .val (.ref b21), .val (.int (3 : Int32)), .unset]) rfl k) ?_
  refine gs (mkF m 16 _ [(.int (3 : Int32))]) (fun T A t k => XS.iload A B.x rfl (B.d d16_14) rfl k) ?_
  refine gs (mkF m 17 _ [(.int (3 : Int32)), (.int (3 : Int32))]) (fun T A t k => XS.iloadN A B.x rfl (B.d d16_16) rfl k) ?_
  refine gs (mkF m 57 _ []) (fun T A t k => XS.icmpYes A B.x rfl (pc0 := 17) (pc' := 57) rfl (B.d d16_17) rfl (teq (by decide : (3 : Int32) = (3 : Int32))).1 (by decide) (by decide) k) ?_
  refine gs (mkF m 58 _ [(.ref b21)]) (fun T A t k => XS.aloadN A B.x rfl (B.d d16_57) rfl rfl k) ?_
  exact g_retA B rfl rfl d16_58 (by decide) (by decide) ⟨_, _, rfl, (((Keep.refl h0 []).ext E21).trans K22 (allS (Or.inr (by omega)) all0)), (by omega), V22⟩
set_option maxRecDepth 65536 in
set_option maxHeartbeats 40000000 in
theorem n_cfl_3_3 (l : Launch) (Z : State) (a0 : Array Value) (hw : ∀ d ∈ tables_1, d.before a0 Z = true) (hEL : EW Z a0 []) (a1 : Addr) (kb : ClassId) (c0 c1 c2 : Int32) (h0 : Heap) (n0 : Nat) (PA : Arv Z h0 a1 kb .byte (3 : Int32) [(.int (StrChars.lo8 c0)), (.int (StrChars.lo8 c1)), (.int (StrChars.lo8 c2))] (.int (0 : Int32))) :
    Met false Z [] l (⟨"java/lang/StringUTF16", "coderFromArrayLen", "([BI)B"⟩ : MethodName) jdk_52_method_15_code 2 (some .byte) ({ frames := 0, cells := 0, slots := 0, locals := 0 } : Room) #[(.ref a1), (.int (3 : Int32))] h0 [] n0 (fun v h => v = some (.int (0 : Int32)) ∧ h0 = h) := by
  refine Met.of (a0 := a0) (Ls := #[.val (.ref a1), .val (.int (3 : Int32))]) (fun z => rfl) (plainFor_of_name pn_java_lang_StringUTF16) hEL (fun m => by first | (simp [entryFrame, mkF, argsToLocals, Value.category]; done) | rfl) ?_
  intro p e s m below meth c B hSf
  refine gs (mkF m 1 _ [(.int (3 : Int32))]) (fun T A t k => XS.iloadN A B.x rfl (B.d d18_0) rfl k) ?_
  refine gs (mkF m 2 _ [(.ref a1), (.int (3 : Int32))]) (fun T A t k => XS.aloadN A B.x rfl (B.d d18_1) rfl rfl k) ?_
  refine g_len B PA d18_2 (q := 3) rfl ?_
  refine gs (mkF m 4 _ [(.int (0 : Int32))]) (fun T A t k => XS.isub A B.x rfl (B.d d18_3) rfl k) ?_
  refine gs (mkF m 6 _ [(.int (31 : Int32)), (.int (0 : Int32))]) (fun T A t k => XS.bipush A B.x rfl (B.d d18_4) k) ?_
  refine gs (mkF m 7 _ [(.int (0 : Int32))]) (fun T A t k => XS.iushr A B.x rfl (B.d d18_6) rfl k) ?_
  refine gs (mkF m 8 _ [(.int (0 : Int32))]) (fun T A t k => XS.i2b A B.x rfl (B.d d18_7) rfl k) ?_
  exact g_retN (t := .byte) B (by simp) d18_8 (by decide) (by decide) ⟨rfl, rfl⟩
set_option maxRecDepth 65536 in
set_option maxHeartbeats 40000000 in
theorem n_init4_3 (l : Launch) (Z : State) (a0 : Array Value) (hw : ∀ d ∈ tables_1, d.before a0 Z = true) (hEL : EW Z a0 []) (a1 : Addr) (a2 : Addr) (zc : Int32) (rv : Value) (kc : ClassId) (c0 c1 c2 : Int32) (h0 : Heap) (n0 : Nat) (PE : Exa Z h0 a1 "java/lang/String") (PV : Fld Z h0 a1 "java/lang/String" "value" "[B" .null) (PC : Fld Z h0 a1 "java/lang/String" "coder" "B" (.int (0 : Int32))) (PA : Arv Z h0 a2 kc .char (3 : Int32) [(.int c0), (.int c1), (.int c2)] (.int (0 : Int32))) (hn : @LE.le Nat _ n0 h0.size) (hd : @LE.le Nat _ n0 a1) (ha : @LT.lt Nat _ a2 h0.size) (hr0 : rng c0) (hr1 : rng c1) (hr2 : rng c2) (PX : Sts Z zc rv) (PO : Old Z n0 h0) :
    Met false Z [] l (⟨"java/lang/String", "<init>", "([CIILjava/lang/Void;)V"⟩ : MethodName) jdk_42_method_149_code 6 none ({ frames := 4, cells := 2, slots := 9, locals := 57 } : Room) #[(.ref a1), (.ref a2), (.int (0 : Int32)), (.int (3 : Int32)), .null] h0 [] n0 (fun v h => v = none ∧ Keep h0 h [a1] ∧ ∃ t : Addr, @LE.le Nat _ h0.size t ∧ Str Z h a1 t [c0, c1, c2]) := by
  refine Met.of (a0 := a0) (Ls := #[.val (.ref a1), .val (.ref a2), .val (.int (0 : Int32)), .val (.int (3 : Int32)), .val .null, .unset]) (fun z => rfl) (plainFor_of_name pn_java_lang_String) hEL (fun m => by first | (simp [entryFrame, mkF, argsToLocals, Value.category]; done) | rfl) ?_
  intro p e s m below meth c B hSf
  obtain ⟨SC, hzc, SA, SH, SL, SF, rf⟩ := id PX
  have hlt1 : @LT.lt Nat _ a1 h0.size := PE.lt
  refine gs (mkF m 1 _ [(.ref a1)]) (fun T A t k => XS.aloadN A B.x rfl (B.d d3_0) rfl rfl k) ?_
  refine g_initO B (hw _ (List.mem_of_getElem? (i := 16) rfl)) (hw _ (List.mem_of_getElem? (i := 17) rfl)) (hw _ (List.mem_of_getElem? (i := 18) rfl)) rfl d3_1 (by decide) (W := 0) (Nat.le_of_eq rfl) (by decide) (q := 4) rfl ?_
  refine gs (mkF m 5 _ [(.int (3 : Int32))]) (fun T A t k => XS.iloadN A B.x rfl (B.d d3_4) rfl k) ?_
  refine gs (mkF m 27 _ []) (fun T A t k => XS.ifYes A B.x rfl (pc0 := 5) (pc' := 27) rfl (B.d d3_5) rfl ((if0 _ _).trans (feq (by decide : ¬ ((3 : Int32) = (0 : Int32)))).2) (by decide) (by decide) k) ?_
  refine g_getS B (hw _ (List.mem_of_getElem? (i := 46) rfl)) (SC.ext PO.2) d3_27 (q := 30) rfl ?_
  refine gs (mkF m 33 _ []) (fun T A t k => XS.ifNo A B.x rfl (B.d d3_30) rfl ((if0 _ _).trans (feq (hzc : ¬ (zc = (0 : Int32)))).1) k) ?_
  refine gs (mkF m 34 _ [(.ref a2)]) (fun T A t k => XS.aloadN A B.x rfl (B.d d3_33) rfl rfl k) ?_
  refine gs (mkF m 35 _ [(.int (0 : Int32)), (.ref a2)]) (fun T A t k => XS.iloadN A B.x rfl (B.d d3_34) rfl k) ?_
  refine gs (mkF m 36 _ [(.int (3 : Int32)), (.int (0 : Int32)), (.ref a2)]) (fun T A t k => XS.iloadN A B.x rfl (B.d d3_35) rfl k) ?_
  by_cases hl0 : (255 : Int32) < c0
  · have hg := hl0
    refine g_metN (c_static B (hw _ (List.mem_of_getElem? (i := 74) rfl)) (hw _ (List.mem_of_getElem? (i := 75) rfl)) (hw _ (List.mem_of_getElem? (i := 76) rfl)) (hw _ (List.mem_of_getElem? (i := 77) rfl)) (by decide) rfl (lenOf pd_285bCII295bB rfl) rfl (Nat.le_of_eq rfl) d3_36 rfl (argsL := [(.ref a2), (.int (0 : Int32)), (.int (3 : Int32))]) (rest := []) (W := 0) (q := 39)) (n_comp3_3_0 l Z a0 hw hEL a2 zc rv kc c0 c1 c2 h0 n0 PA (by omega) (by omega) hr0 hr1 hr2  hg PX PO) (hw _ (List.mem_of_getElem? (i := 77) rfl)) (hw _ (List.mem_of_getElem? (i := 76) rfl)) (by decide) (by decide) (by decide) (by decide) ?_
    intro v21 h21 hz21 hQ21
    obtain ⟨x21, k21, rfl, K21, g21, V21⟩ := hQ21
    have z21 := K21.1; have y21 : @LT.lt Nat _ x21 h21.size := V21.lt
    refine gs (mkF m 41 #[.val (.ref a1), .val (.ref a2), .val (.int (0 : Int32)), .val (.int (3 : Int32)), .val .null, .val (.ref x21)] []) (fun T A t k => XS.astore A B.x rfl (B.d d3_39) rfl rfl (l' := #[.val (.ref a1), .val (.ref a2), .val (.int (0 : Int32)), .val (.int (3 : Int32)), .val .null, .val (.ref x21)]) rfl k) ?_
    refine gs (mkF m 42 _ [(.ref a1)]) (fun T A t k => XS.aloadN A B.x rfl (B.d d3_41) rfl rfl k) ?_
    refine gs (mkF m 44 _ [(.ref x21), (.ref a1)]) (fun T A t k => XS.aload A B.x rfl (B.d d3_42) rfl rfl k) ?_
    refine gs (mkF m 45 _ [(.int (3 : Int32)), (.ref x21), (.ref a1)]) (fun T A t k => XS.iloadN A B.x rfl (B.d d3_44) rfl k) ?_
    refine g_metN (c_static B (hw _ (List.mem_of_getElem? (i := 81) rfl)) (hw _ (List.mem_of_getElem? (i := 82) rfl)) (hw _ (List.mem_of_getElem? (i := 76) rfl)) (hw _ (List.mem_of_getElem? (i := 83) rfl)) (by decide) rfl (lenOf pd_285bBI29B rfl) rfl (Nat.le_of_eq rfl) d3_45 rfl (argsL := [(.ref x21), (.int (3 : Int32))]) (rest := [(.ref a1)]) (W := 1) (q := 48)) (n_cfl_3_6 l Z a0 hw hEL x21 k21 c0 c1 c2 h21 n0 V21) (hw _ (List.mem_of_getElem? (i := 83) rfl)) (hw _ (List.mem_of_getElem? (i := 76) rfl)) (by decide) (by decide) (by decide) (by decide) ?_
    intro v22 h22 hz22 hQ22
    obtain ⟨rfl, rfl⟩ := hQ22
    refine g_putFN B (hw _ (List.mem_of_getElem? (i := 26) rfl)) Via.refl (PC.keep K21 nin0) (PE.keep K21) (Or.inr ⟨(hw _ (List.mem_of_getElem? (i := 22) rfl)), rfl, rfl⟩) (hw _ (List.mem_of_getElem? (i := 6) rfl)) (ty := .byte) (v' := (.int (1 : Int32))) (by decide) rfl rfl d3_48 nos (by omega) (q := 51) rfl ?_
    intro h23 W23 F23
    have z23 := W23.size
    refine gs (mkF m 52 _ [(.ref a1)]) (fun T A t k => XS.aloadN A B.x rfl (B.d d3_51) rfl rfl k) ?_
    refine gs (mkF m 54 _ [(.ref x21), (.ref a1)]) (fun T A t k => XS.aload A B.x rfl (B.d d3_52) rfl rfl k) ?_
    refine g_putF B (hw _ (List.mem_of_getElem? (i := 25) rfl)) Via.refl ((PV.keep K21 nin0).other W23 (Or.inr (slot_ne (Or.inr (hw _ (List.mem_of_getElem? (i := 21) rfl))) (Or.inr (hw _ (List.mem_of_getElem? (i := 22) rfl))) (by decide) (t := (.array .byte)) (t' := .byte) (by decide) (by decide)))) ((PE.keep K21).wr W23) (Or.inr ⟨(hw _ (List.mem_of_getElem? (i := 21) rfl)), rfl, rfl⟩) (hw _ (List.mem_of_getElem? (i := 6) rfl)) (ty := (.array .byte)) (by decide) rfl rfl d3_54 nos (by omega) (q := 57) rfl ?_
    intro h24 W24 F24
    have z24 := W24.size
    exact g_ret0 B d3_57 (by decide) (by decide) ⟨rfl, ((((Keep.refl h0 [a1]).trans K21 all0).wr W23 (Or.inl (by simp))).wr W24 (Or.inl (by simp))), _, (by omega), (Str.wide (((PE.keep K21).wr W23).wr W24) F24 (F23.other W24 (Or.inr (slot_ne (Or.inr (hw _ (List.mem_of_getElem? (i := 22) rfl))) (Or.inr (hw _ (List.mem_of_getElem? (i := 21) rfl))) (by decide) (t := .byte) (t' := (.array .byte)) (by decide) (by decide)))) ((V21.other W23 (by omega : @Ne Nat x21 a1)).other W24 (by omega : @Ne Nat x21 a1)) rfl rfl ⟨c0, by simp, hg⟩ (by simp only [List.mem_cons, List.not_mem_nil, or_false]; rintro c hc; rcases hc with rfl | rfl | rfl <;> assumption) (by simp))⟩
  · by_cases hl1 : (255 : Int32) < c1
    · have hg := hl1
      refine g_metN (c_static B (hw _ (List.mem_of_getElem? (i := 74) rfl)) (hw _ (List.mem_of_getElem? (i := 75) rfl)) (hw _ (List.mem_of_getElem? (i := 76) rfl)) (hw _ (List.mem_of_getElem? (i := 77) rfl)) (by decide) rfl (lenOf pd_285bCII295bB rfl) rfl (Nat.le_of_eq rfl) d3_36 rfl (argsL := [(.ref a2), (.int (0 : Int32)), (.int (3 : Int32))]) (rest := []) (W := 0) (q := 39)) (n_comp3_3_1 l Z a0 hw hEL a2 zc rv kc c0 c1 c2 h0 n0 PA (by omega) (by omega) hr0 hr1 hr2 hl0 hg PX PO) (hw _ (List.mem_of_getElem? (i := 77) rfl)) (hw _ (List.mem_of_getElem? (i := 76) rfl)) (by decide) (by decide) (by decide) (by decide) ?_
      intro v25 h25 hz25 hQ25
      obtain ⟨x25, k25, rfl, K25, g25, V25⟩ := hQ25
      have z25 := K25.1; have y25 : @LT.lt Nat _ x25 h25.size := V25.lt
      refine gs (mkF m 41 #[.val (.ref a1), .val (.ref a2), .val (.int (0 : Int32)), .val (.int (3 : Int32)), .val .null, .val (.ref x25)] []) (fun T A t k => XS.astore A B.x rfl (B.d d3_39) rfl rfl (l' := #[.val (.ref a1), .val (.ref a2), .val (.int (0 : Int32)), .val (.int (3 : Int32)), .val .null, .val (.ref x25)]) rfl k) ?_
      refine gs (mkF m 42 _ [(.ref a1)]) (fun T A t k => XS.aloadN A B.x rfl (B.d d3_41) rfl rfl k) ?_
      refine gs (mkF m 44 _ [(.ref x25), (.ref a1)]) (fun T A t k => XS.aload A B.x rfl (B.d d3_42) rfl rfl k) ?_
      refine gs (mkF m 45 _ [(.int (3 : Int32)), (.ref x25), (.ref a1)]) (fun T A t k => XS.iloadN A B.x rfl (B.d d3_44) rfl k) ?_
      refine g_metN (c_static B (hw _ (List.mem_of_getElem? (i := 81) rfl)) (hw _ (List.mem_of_getElem? (i := 82) rfl)) (hw _ (List.mem_of_getElem? (i := 76) rfl)) (hw _ (List.mem_of_getElem? (i := 83) rfl)) (by decide) rfl (lenOf pd_285bBI29B rfl) rfl (Nat.le_of_eq rfl) d3_45 rfl (argsL := [(.ref x25), (.int (3 : Int32))]) (rest := [(.ref a1)]) (W := 1) (q := 48)) (n_cfl_3_6 l Z a0 hw hEL x25 k25 c0 c1 c2 h25 n0 V25) (hw _ (List.mem_of_getElem? (i := 83) rfl)) (hw _ (List.mem_of_getElem? (i := 76) rfl)) (by decide) (by decide) (by decide) (by decide) ?_
      intro v26 h26 hz26 hQ26
      obtain ⟨rfl, rfl⟩ := hQ26
      refine g_putFN B (hw _ (List.mem_of_getElem? (i := 26) rfl)) Via.refl (PC.keep K25 nin0) (PE.keep K25) (Or.inr ⟨(hw _ (List.mem_of_getElem? (i := 22) rfl)), rfl, rfl⟩) (hw _ (List.mem_of_getElem? (i := 6) rfl)) (ty := .byte) (v' := (.int (1 : Int32))) (by decide) rfl rfl d3_48 nos (by omega) (q := 51) rfl ?_
      intro h27 W27 F27
      have z27 := W27.size
      refine gs (mkF m 52 _ [(.ref a1)]) (fun T A t k => XS.aloadN A B.x rfl (B.d d3_51) rfl rfl k) ?_
      refine gs (mkF m 54 _ [(.ref x25), (.ref a1)]) (fun T A t k => XS.aload A B.x rfl (B.d d3_52) rfl rfl k) ?_
      refine g_putF B (hw _ (List.mem_of_getElem? (i := 25) rfl)) Via.refl ((PV.keep K25 nin0).other W27 (Or.inr (slot_ne (Or.inr (hw _ (List.mem_of_getElem? (i := 21) rfl))) (Or.inr (hw _ (List.mem_of_getElem? (i := 22) rfl))) (by decide) (t := (.array .byte)) (t' := .byte) (by decide) (by decide)))) ((PE.keep K25).wr W27) (Or.inr ⟨(hw _ (List.mem_of_getElem? (i := 21) rfl)), rfl, rfl⟩) (hw _ (List.mem_of_getElem? (i := 6) rfl)) (ty := (.array .byte)) (by decide) rfl rfl d3_54 nos (by omega) (q := 57) rfl ?_
      intro h28 W28 F28
      have z28 := W28.size
      exact g_ret0 B d3_57 (by decide) (by decide) ⟨rfl, ((((Keep.refl h0 [a1]).trans K25 all0).wr W27 (Or.inl (by simp))).wr W28 (Or.inl (by simp))), _, (by omega), (Str.wide (((PE.keep K25).wr W27).wr W28) F28 (F27.other W28 (Or.inr (slot_ne (Or.inr (hw _ (List.mem_of_getElem? (i := 22) rfl))) (Or.inr (hw _ (List.mem_of_getElem? (i := 21) rfl))) (by decide) (t := .byte) (t' := (.array .byte)) (by decide) (by decide)))) ((V25.other W27 (by omega : @Ne Nat x25 a1)).other W28 (by omega : @Ne Nat x25 a1)) rfl rfl ⟨c1, by simp, hg⟩ (by simp only [List.mem_cons, List.not_mem_nil, or_false]; rintro c hc; rcases hc with rfl | rfl | rfl <;> assumption) (by simp))⟩
    · by_cases hl2 : (255 : Int32) < c2
      · have hg := hl2
        refine g_metN (c_static B (hw _ (List.mem_of_getElem? (i := 74) rfl)) (hw _ (List.mem_of_getElem? (i := 75) rfl)) (hw _ (List.mem_of_getElem? (i := 76) rfl)) (hw _ (List.mem_of_getElem? (i := 77) rfl)) (by decide) rfl (lenOf pd_285bCII295bB rfl) rfl (Nat.le_of_eq rfl) d3_36 rfl (argsL := [(.ref a2), (.int (0 : Int32)), (.int (3 : Int32))]) (rest := []) (W := 0) (q := 39)) (n_comp3_3_2 l Z a0 hw hEL a2 zc rv kc c0 c1 c2 h0 n0 PA (by omega) (by omega) hr0 hr1 hr2 hl0 hl1 hg PX PO) (hw _ (List.mem_of_getElem? (i := 77) rfl)) (hw _ (List.mem_of_getElem? (i := 76) rfl)) (by decide) (by decide) (by decide) (by decide) ?_
        intro v29 h29 hz29 hQ29
        obtain ⟨x29, k29, rfl, K29, g29, V29⟩ := hQ29
        have z29 := K29.1; have y29 : @LT.lt Nat _ x29 h29.size := V29.lt
        refine gs (mkF m 41 #[.val (.ref a1), .val (.ref a2), .val (.int (0 : Int32)), .val (.int (3 : Int32)), .val .null, .val (.ref x29)] []) (fun T A t k => XS.astore A B.x rfl (B.d d3_39) rfl rfl (l' := #[.val (.ref a1), .val (.ref a2), .val (.int (0 : Int32)), .val (.int (3 : Int32)), .val .null, .val (.ref x29)]) rfl k) ?_
        refine gs (mkF m 42 _ [(.ref a1)]) (fun T A t k => XS.aloadN A B.x rfl (B.d d3_41) rfl rfl k) ?_
        refine gs (mkF m 44 _ [(.ref x29), (.ref a1)]) (fun T A t k => XS.aload A B.x rfl (B.d d3_42) rfl rfl k) ?_
        refine gs (mkF m 45 _ [(.int (3 : Int32)), (.ref x29), (.ref a1)]) (fun T A t k => XS.iloadN A B.x rfl (B.d d3_44) rfl k) ?_
        refine g_metN (c_static B (hw _ (List.mem_of_getElem? (i := 81) rfl)) (hw _ (List.mem_of_getElem? (i := 82) rfl)) (hw _ (List.mem_of_getElem? (i := 76) rfl)) (hw _ (List.mem_of_getElem? (i := 83) rfl)) (by decide) rfl (lenOf pd_285bBI29B rfl) rfl (Nat.le_of_eq rfl) d3_45 rfl (argsL := [(.ref x29), (.int (3 : Int32))]) (rest := [(.ref a1)]) (W := 1) (q := 48)) (n_cfl_3_6 l Z a0 hw hEL x29 k29 c0 c1 c2 h29 n0 V29) (hw _ (List.mem_of_getElem? (i := 83) rfl)) (hw _ (List.mem_of_getElem? (i := 76) rfl)) (by decide) (by decide) (by decide) (by decide) ?_
        intro v30 h30 hz30 hQ30
        obtain ⟨rfl, rfl⟩ := hQ30
        refine g_putFN B (hw _ (List.mem_of_getElem? (i := 26) rfl)) Via.refl (PC.keep K29 nin0) (PE.keep K29) (Or.inr ⟨(hw _ (List.mem_of_getElem? (i := 22) rfl)), rfl, rfl⟩) (hw _ (List.mem_of_getElem? (i := 6) rfl)) (ty := .byte) (v' := (.int (1 : Int32))) (by decide) rfl rfl d3_48 nos (by omega) (q := 51) rfl ?_
        intro h31 W31 F31
        have z31 := W31.size
        refine gs (mkF m 52 _ [(.ref a1)]) (fun T A t k => XS.aloadN A B.x rfl (B.d d3_51) rfl rfl k) ?_
        refine gs (mkF m 54 _ [(.ref x29), (.ref a1)]) (fun T A t k => XS.aload A B.x rfl (B.d d3_52) rfl rfl k) ?_
        refine g_putF B (hw _ (List.mem_of_getElem? (i := 25) rfl)) Via.refl ((PV.keep K29 nin0).other W31 (Or.inr (slot_ne (Or.inr (hw _ (List.mem_of_getElem? (i := 21) rfl))) (Or.inr (hw _ (List.mem_of_getElem? (i := 22) rfl))) (by decide) (t := (.array .byte)) (t' := .byte) (by decide) (by decide)))) ((PE.keep K29).wr W31) (Or.inr ⟨(hw _ (List.mem_of_getElem? (i := 21) rfl)), rfl, rfl⟩) (hw _ (List.mem_of_getElem? (i := 6) rfl)) (ty := (.array .byte)) (by decide) rfl rfl d3_54 nos (by omega) (q := 57) rfl ?_
        intro h32 W32 F32
        have z32 := W32.size
        exact g_ret0 B d3_57 (by decide) (by decide) ⟨rfl, ((((Keep.refl h0 [a1]).trans K29 all0).wr W31 (Or.inl (by simp))).wr W32 (Or.inl (by simp))), _, (by omega), (Str.wide (((PE.keep K29).wr W31).wr W32) F32 (F31.other W32 (Or.inr (slot_ne (Or.inr (hw _ (List.mem_of_getElem? (i := 22) rfl))) (Or.inr (hw _ (List.mem_of_getElem? (i := 21) rfl))) (by decide) (t := .byte) (t' := (.array .byte)) (by decide) (by decide)))) ((V29.other W31 (by omega : @Ne Nat x29 a1)).other W32 (by omega : @Ne Nat x29 a1)) rfl rfl ⟨c2, by simp, hg⟩ (by simp only [List.mem_cons, List.not_mem_nil, or_false]; rintro c hc; rcases hc with rfl | rfl | rfl <;> assumption) (by simp))⟩
      · refine g_metN (c_static B (hw _ (List.mem_of_getElem? (i := 74) rfl)) (hw _ (List.mem_of_getElem? (i := 75) rfl)) (hw _ (List.mem_of_getElem? (i := 76) rfl)) (hw _ (List.mem_of_getElem? (i := 77) rfl)) (by decide) rfl (lenOf pd_285bCII295bB rfl) rfl (Nat.le_of_eq rfl) d3_36 rfl (argsL := [(.ref a2), (.int (0 : Int32)), (.int (3 : Int32))]) (rest := []) (W := 0) (q := 39)) (n_comp3_3_3 l Z a0 hw hEL a2 zc rv kc c0 c1 c2 h0 n0 PA (by omega) (by omega) hr0 hr1 hr2 hl0 hl1 hl2 PX PO) (hw _ (List.mem_of_getElem? (i := 77) rfl)) (hw _ (List.mem_of_getElem? (i := 76) rfl)) (by decide) (by decide) (by decide) (by decide) ?_
        intro v33 h33 hz33 hQ33
        obtain ⟨x33, k33, rfl, K33, g33, V33⟩ := hQ33
        have z33 := K33.1; have y33 : @LT.lt Nat _ x33 h33.size := V33.lt
        refine gs (mkF m 41 #[.val (.ref a1), .val (.ref a2), .val (.int (0 : Int32)), .val (.int (3 : Int32)), .val .null, .val (.ref x33)] []) (fun T A t k => XS.astore A B.x rfl (B.d d3_39) rfl rfl (l' := #[.val (.ref a1), .val (.ref a2), .val (.int (0 : Int32)), .val (.int (3 : Int32)), .val .null, .val (.ref x33)]) rfl k) ?_
        refine gs (mkF m 42 _ [(.ref a1)]) (fun T A t k => XS.aloadN A B.x rfl (B.d d3_41) rfl rfl k) ?_
        refine gs (mkF m 44 _ [(.ref x33), (.ref a1)]) (fun T A t k => XS.aload A B.x rfl (B.d d3_42) rfl rfl k) ?_
        refine gs (mkF m 45 _ [(.int (3 : Int32)), (.ref x33), (.ref a1)]) (fun T A t k => XS.iloadN A B.x rfl (B.d d3_44) rfl k) ?_
        refine g_metN (c_static B (hw _ (List.mem_of_getElem? (i := 81) rfl)) (hw _ (List.mem_of_getElem? (i := 82) rfl)) (hw _ (List.mem_of_getElem? (i := 76) rfl)) (hw _ (List.mem_of_getElem? (i := 83) rfl)) (by decide) rfl (lenOf pd_285bBI29B rfl) rfl (Nat.le_of_eq rfl) d3_45 rfl (argsL := [(.ref x33), (.int (3 : Int32))]) (rest := [(.ref a1)]) (W := 1) (q := 48)) (n_cfl_3_3 l Z a0 hw hEL x33 k33 c0 c1 c2 h33 n0 V33) (hw _ (List.mem_of_getElem? (i := 83) rfl)) (hw _ (List.mem_of_getElem? (i := 76) rfl)) (by decide) (by decide) (by decide) (by decide) ?_
        intro v34 h34 hz34 hQ34
        obtain ⟨rfl, rfl⟩ := hQ34
        refine g_putFN B (hw _ (List.mem_of_getElem? (i := 26) rfl)) Via.refl (PC.keep K33 nin0) (PE.keep K33) (Or.inr ⟨(hw _ (List.mem_of_getElem? (i := 22) rfl)), rfl, rfl⟩) (hw _ (List.mem_of_getElem? (i := 6) rfl)) (ty := .byte) (v' := (.int (0 : Int32))) (by decide) rfl rfl d3_48 nos (by omega) (q := 51) rfl ?_
        intro h35 W35 F35
        have z35 := W35.size
        refine gs (mkF m 52 _ [(.ref a1)]) (fun T A t k => XS.aloadN A B.x rfl (B.d d3_51) rfl rfl k) ?_
        refine gs (mkF m 54 _ [(.ref x33), (.ref a1)]) (fun T A t k => XS.aload A B.x rfl (B.d d3_52) rfl rfl k) ?_
        refine g_putF B (hw _ (List.mem_of_getElem? (i := 25) rfl)) Via.refl ((PV.keep K33 nin0).other W35 (Or.inr (slot_ne (Or.inr (hw _ (List.mem_of_getElem? (i := 21) rfl))) (Or.inr (hw _ (List.mem_of_getElem? (i := 22) rfl))) (by decide) (t := (.array .byte)) (t' := .byte) (by decide) (by decide)))) ((PE.keep K33).wr W35) (Or.inr ⟨(hw _ (List.mem_of_getElem? (i := 21) rfl)), rfl, rfl⟩) (hw _ (List.mem_of_getElem? (i := 6) rfl)) (ty := (.array .byte)) (by decide) rfl rfl d3_54 nos (by omega) (q := 57) rfl ?_
        intro h36 W36 F36
        have z36 := W36.size
        exact g_ret0 B d3_57 (by decide) (by decide) ⟨rfl, ((((Keep.refl h0 [a1]).trans K33 all0).wr W35 (Or.inl (by simp))).wr W36 (Or.inl (by simp))), _, (by omega), (Str.mk0 (((PE.keep K33).wr W35).wr W36) F36 (F35.other W36 (Or.inr (slot_ne (Or.inr (hw _ (List.mem_of_getElem? (i := 22) rfl))) (Or.inr (hw _ (List.mem_of_getElem? (i := 21) rfl))) (by decide) (t := .byte) (t' := (.array .byte)) (by decide) (by decide)))) ((V33.other W35 (by omega : @Ne Nat x33 a1)).other W36 (by omega : @Ne Nat x33 a1)) rfl rfl (by simp only [List.mem_cons, List.not_mem_nil, or_false]; rintro c hc; rcases hc with rfl | rfl | rfl <;> exact ⟨(by assumption : rng _).1, by assumption⟩) (by simp))⟩
set_option maxRecDepth 65536 in
set_option maxHeartbeats 40000000 in
theorem n_init1_3 (l : Launch) (Z : State) (a0 : Array Value) (hw : ∀ d ∈ tables_1, d.before a0 Z = true) (hEL : EW Z a0 []) (a1 : Addr) (a2 : Addr) (zc : Int32) (rv : Value) (kc : ClassId) (c0 c1 c2 : Int32) (h0 : Heap) (n0 : Nat) (PE : Exa Z h0 a1 "java/lang/String") (PV : Fld Z h0 a1 "java/lang/String" "value" "[B" .null) (PC : Fld Z h0 a1 "java/lang/String" "coder" "B" (.int (0 : Int32))) (PA : Arv Z h0 a2 kc .char (3 : Int32) [(.int c0), (.int c1), (.int c2)] (.int (0 : Int32))) (hn : @LE.le Nat _ n0 h0.size) (hd : @LE.le Nat _ n0 a1) (ha : @LT.lt Nat _ a2 h0.size) (hr0 : rng c0) (hr1 : rng c1) (hr2 : rng c2) (PX : Sts Z zc rv) (PO : Old Z n0 h0) :
    Met false Z [] l (⟨"java/lang/String", "<init>", "([C)V"⟩ : MethodName) jdk_42_method_3_code 2 none ({ frames := 5, cells := 2, slots := 9, locals := 74 } : Room) #[(.ref a1), (.ref a2)] h0 [] n0 (fun v h => v = none ∧ Keep h0 h [a1] ∧ ∃ t : Addr, @LE.le Nat _ h0.size t ∧ Str Z h a1 t [c0, c1, c2]) := by
  refine Met.of (a0 := a0) (Ls := #[.val (.ref a1), .val (.ref a2)]) (fun z => rfl) (plainFor_of_name pn_java_lang_String) hEL (fun m => by first | (simp [entryFrame, mkF, argsToLocals, Value.category]; done) | rfl) ?_
  intro p e s m below meth c B hSf
  obtain ⟨SC, hzc, SA, SH, SL, SF, rf⟩ := id PX
  have hlt1 : @LT.lt Nat _ a1 h0.size := PE.lt
  refine gs (mkF m 1 _ [(.ref a1)]) (fun T A t k => XS.aloadN A B.x rfl (B.d d2_0) rfl rfl k) ?_
  refine gs (mkF m 2 _ [(.ref a2), (.ref a1)]) (fun T A t k => XS.aloadN A B.x rfl (B.d d2_1) rfl rfl k) ?_
  refine gs (mkF m 3 _ [(.int (0 : Int32)), (.ref a2), (.ref a1)]) (fun T A t k => XS.iconst A B.x rfl (B.d d2_2) k) ?_
  refine gs (mkF m 4 _ [(.ref a2), (.int (0 : Int32)), (.ref a2), (.ref a1)]) (fun T A t k => XS.aloadN A B.x rfl (B.d d2_3) rfl rfl k) ?_
  refine g_len B PA d2_4 (q := 5) rfl ?_
  refine gs (mkF m 6 _ [.null, (.int (3 : Int32)), (.int (0 : Int32)), (.ref a2), (.ref a1)]) (fun T A t k => XS.aconstNull A B.x rfl (B.d d2_5) k) ?_
  refine g_metN (c_init B rfl (hw _ (List.mem_of_getElem? (i := 12) rfl)) (hw _ (List.mem_of_getElem? (i := 13) rfl)) (hw _ (List.mem_of_getElem? (i := 15) rfl)) (by decide) rfl (lenOf pd_285bCIILjava2flang2fVoid3b29V rfl) rfl (Nat.le_of_eq rfl) d2_6 rfl (argsL := [(.ref a2), (.int (0 : Int32)), (.int (3 : Int32)), .null]) (rest := []) (W := 0) (q := 9)) (n_init4_3 l Z a0 hw hEL a1 a2 zc rv kc c0 c1 c2 h0 n0 PE PV PC PA (by omega) (by omega) (by omega) hr0 hr1 hr2 PX PO) (hw _ (List.mem_of_getElem? (i := 15) rfl)) (hw _ (List.mem_of_getElem? (i := 7) rfl)) (by decide) (by decide) (by decide) (by decide) ?_
  intro v21 h21 hz21 hQ21
  obtain ⟨rfl, K9, t9, g9, X9⟩ := hQ21
  exact g_ret0 B d2_9 (by decide) (by decide) ⟨rfl, K9, t9, g9, X9⟩
set_option maxRecDepth 65536 in
set_option maxHeartbeats 40000000 in
theorem n_length_3_0 (l : Launch) (Z : State) (a0 : Array Value) (hw : ∀ d ∈ tables_1, d.before a0 Z = true) (hEL : EW Z a0 []) (a1 : Addr) (zc : Int32) (rv : Value) (t : Addr) (kb : ClassId) (c0 c1 c2 : Int32) (h0 : Heap) (n0 : Nat) (PE : Exa Z h0 a1 "java/lang/String") (PC : Fld Z h0 a1 "java/lang/String" "coder" "B" (.int (0 : Int32))) (PV : Fld Z h0 a1 "java/lang/String" "value" "[B" (.ref t)) (PA : Arv Z h0 t kb .byte (3 : Int32) [(.int (StrChars.lo8 c0)), (.int (StrChars.lo8 c1)), (.int (StrChars.lo8 c2))] (.int (0 : Int32))) (PX : Sts Z zc rv) (PO : Old Z n0 h0) :
    Met false Z [] l (⟨"java/lang/String", "length", "()I"⟩ : MethodName) jdk_42_method_54_code 1 (some .int) ({ frames := 1, cells := 0, slots := 0, locals := 13 } : Room) #[(.ref a1)] h0 [] n0 (fun v h => v = some (.int (3 : Int32)) ∧ h0 = h) := by
  refine Met.of (a0 := a0) (Ls := #[.val (.ref a1)]) (fun z => rfl) (plainFor_of_name pn_java_lang_String) hEL (fun m => by first | (simp [entryFrame, mkF, argsToLocals, Value.category]; done) | rfl) ?_
  intro p e s m below meth c B hSf
  obtain ⟨SC, hzc, SA, SH, SL, SF, rf⟩ := id PX
  refine gs (mkF m 1 _ [(.ref a1)]) (fun T A t k => XS.aloadN A B.x rfl (B.d d9_0) rfl rfl k) ?_
  refine g_getF B (hw _ (List.mem_of_getElem? (i := 25) rfl)) Via.refl PV d9_1 (q := 4) rfl ?_
  refine g_len B PA d9_4 (q := 5) rfl ?_
  refine gs (mkF m 6 _ [(.ref a1), (.int (3 : Int32))]) (fun T A t k => XS.aloadN A B.x rfl (B.d d9_5) rfl rfl k) ?_
  refine g_metN (c_virt B PE (hw _ (List.mem_of_getElem? (i := 52) rfl)) (hw _ (List.mem_of_getElem? (i := 53) rfl)) (hw _ (List.mem_of_getElem? (i := 55) rfl)) (hw _ (List.mem_of_getElem? (i := 54) rfl)) (nfs (z := (⟨"java/lang/String", "coder", "()B"⟩ : MethodName)) (hw _ (List.mem_of_getElem? (i := 55) rfl))) (by decide) rfl (lenOf pd_2829B rfl) rfl (Nat.le_of_eq rfl) d9_6 rfl (argsL := []) (rest := [(.int (3 : Int32))]) (W := 1) (q := 9)) (n_coder_0 l Z a0 hw hEL a1 zc rv h0 n0 PE PC PX PO) (hw _ (List.mem_of_getElem? (i := 56) rfl)) (hw _ (List.mem_of_getElem? (i := 7) rfl)) (by decide) (by decide) (by decide) (by decide) ?_
  intro v21 h21 hz21 hQ21
  obtain ⟨rfl, rfl⟩ := hQ21
  refine gs (mkF m 10 _ [(.int (3 : Int32))]) (fun T A t k => XS.ishr A B.x rfl (B.d d9_9) rfl k) ?_
  exact g_retI B d9_10 (by decide) (by decide) ⟨rfl, rfl⟩
set_option maxRecDepth 65536 in
set_option maxHeartbeats 40000000 in
theorem n_min_3_3 (l : Launch) (Z : State) (a0 : Array Value) (hw : ∀ d ∈ tables_1, d.before a0 Z = true) (hEL : EW Z a0 [])   (h0 : Heap) (n0 : Nat)  :
    Met false Z [] l (⟨"java/lang/Math", "min", "(II)I"⟩ : MethodName) jdk_29_method_69_code 2 (some .int) ({ frames := 0, cells := 0, slots := 0, locals := 0 } : Room) #[(.int (3 : Int32)), (.int (3 : Int32))] h0 [] n0 (fun v h => v = some (.int (3 : Int32)) ∧ h0 = h) := by
  refine Met.of (a0 := a0) (Ls := #[.val (.int (3 : Int32)), .val (.int (3 : Int32))]) (fun z => rfl) (Jvm.Free.JP.mathPlain rfl (by decide +kernel)) hEL (fun m => by first | (simp [entryFrame, mkF, argsToLocals, Value.category]; done) | rfl) ?_
  intro p e s m below meth c B hSf
  refine gs (mkF m 1 _ [(.int (3 : Int32))]) (fun T A t k => XS.iloadN A B.x rfl (B.d d14_0) rfl k) ?_
  refine gs (mkF m 2 _ [(.int (3 : Int32)), (.int (3 : Int32))]) (fun T A t k => XS.iloadN A B.x rfl (B.d d14_1) rfl k) ?_
  refine gs (mkF m 5 _ []) (fun T A t k => XS.icmpNo A B.x rfl (B.d d14_2) rfl (flt (by decide : ¬ ((3 : Int32) < (3 : Int32)))).2.2.1 k) ?_
  refine gs (mkF m 6 _ [(.int (3 : Int32))]) (fun T A t k => XS.iloadN A B.x rfl (B.d d14_5) rfl k) ?_
  refine gs (mkF m 10 _ [(.int (3 : Int32))]) (fun T A t k => XS.goto A B.x rfl (pc0 := 6) (pc' := 10) rfl (B.d d14_6) (by decide) (by decide) k) ?_
  exact g_retI B d14_10 (by decide) (by decide) ⟨rfl, rfl⟩
set_option maxRecDepth 65536 in
set_option maxHeartbeats 40000000 in
theorem n_l_indexOfChar_46_3 (l : Launch) (Z : State) (a0 : Array Value) (hw : ∀ d ∈ tables_1, d.before a0 Z = true) (hEL : EW Z a0 []) (a1 : Addr) (zc : Int32) (rv : Value) (kb : ClassId) (c0 c1 c2 : Int32) (h0 : Heap) (n0 : Nat) (PA : Arv Z h0 a1 kb .byte (3 : Int32) [(.int (StrChars.lo8 c0)), (.int (StrChars.lo8 c1)), (.int (StrChars.lo8 c2))] (.int (0 : Int32))) (hr0 : rng c0) (hr1 : rng c1) (hr2 : rng c2) (hl0 : ¬ (255 : Int32) < c0) (hl1 : ¬ (255 : Int32) < c1) (hl2 : ¬ (255 : Int32) < c2) (PX : Sts Z zc rv) (PO : Old Z n0 h0) :
    Met false Z [] l (⟨"java/lang/StringLatin1", "indexOfChar", "([BIII)I"⟩ : MethodName) jdk_43_method_23_code 6 (some .int) ({ frames := 0, cells := 0, slots := 0, locals := 0 } : Room) #[(.ref a1), (.int (46 : Int32)), (.int (0 : Int32)), (.int (3 : Int32))] h0 [] n0 (fun v h => v = some (.int (if c0 = (46 : Int32) then (0 : Int32) else (if c1 = (46 : Int32) then (1 : Int32) else (if c2 = (46 : Int32) then (2 : Int32) else (-1 : Int32))))) ∧ h0 = h) := by
  refine Met.of (a0 := a0) (Ls := #[.val (.ref a1), .val (.int (46 : Int32)), .val (.int (0 : Int32)), .val (.int (3 : Int32)), .unset, .unset]) (fun z => rfl) (plainFor_of_name pn_java_lang_StringLatin1) hEL (fun m => by first | (simp [entryFrame, mkF, argsToLocals, Value.category]; done) | rfl) ?_
  intro p e s m below meth c B hSf
  obtain ⟨SC, hzc, SA, SH, SL, SF, rf⟩ := id PX
  refine gs (mkF m 1 _ [(.int (46 : Int32))]) (fun T A t k => XS.iloadN A B.x rfl (B.d d20_0) rfl k) ?_
  refine gs (mkF m 2 _ [(.int (46 : Int32))]) (fun T A t k => XS.i2b A B.x rfl (B.d d20_1) rfl k) ?_
  refine gs (mkF m 4 #[.val (.ref a1), .val (.int (46 : Int32)), .val (.int (0 : Int32)), .val (.int (3 : Int32)), .val (.int (46 : Int32)), .unset] []) (fun T A t k => XS.istore A B.x rfl (B.d d20_2) rfl (l' := #[.val (.ref a1), .val (.int (46 : Int32)), .val (.int (0 : Int32)), .val (.int (3 : Int32)), .val (.int (46 : Int32)), .unset]) rfl k) ?_
  refine gs (mkF m 5 _ [(.int (0 : Int32))]) (fun T A t k => XS.iloadN A B.x rfl (B.d d20_4) rfl k) ?_
  refine gs (mkF m 7 #[.val (.ref a1), .val (.int (46 : Int32)), .val (.int (0 : Int32)), .val (.int (3 : Int32)), .val (.int (46 : Int32)), .val (.int (0 : Int32))] []) (fun T A t k => XS.istore A B.x rfl (B.d d20_5) rfl (l' := #[.val (.ref a1), .val (.int (46 : Int32)), .val (.int (0 : Int32)), .val (.int (3 : Int32)), .val (.int (46 : Int32)), .val (.int (0 : Int32))]) rfl k) ?_
  refine gs (mkF m 9 _ [(.int (0 : Int32))]) (fun T A t k => XS.iload A B.x rfl (B.d d20_7) rfl k) ?_
  refine gs (mkF m 10 _ [(.int (3 : Int32)), (.int (0 : Int32))]) (fun T A t k => XS.iloadN A B.x rfl (B.d d20_9) rfl k) ?_
  refine gs (mkF m 13 _ []) (fun T A t k => XS.icmpNo A B.x rfl (B.d d20_10) rfl (tlt (by decide : (0 : Int32) < (3 : Int32))).2.1 k) ?_
  refine gs (mkF m 14 _ [(.ref a1)]) (fun T A t k => XS.aloadN A B.x rfl (B.d d20_13) rfl rfl k) ?_
  refine gs (mkF m 16 _ [(.int (0 : Int32)), (.ref a1)]) (fun T A t k => XS.iload A B.x rfl (B.d d20_14) rfl k) ?_
  refine g_ldB B PA ⟨by decide, by decide⟩ (v := (.int (StrChars.lo8 c0))) rfl d20_16 (q := 17) rfl ?_
  refine gs (mkF m 19 _ [(.int (46 : Int32)), (.int (StrChars.lo8 c0))]) (fun T A t k => XS.iload A B.x rfl (B.d d20_17) rfl k) ?_
  by_cases hE0 : c0 = (46 : Int32)
  · refine gs (mkF m 22 _ []) (fun T A t k => XS.icmpNo A B.x rfl (B.d d20_19) rfl (teq ((by rw [hE0]; exact lo_46) : (StrChars.lo8 c0) = (46 : Int32))).2 k) ?_
    refine gs (mkF m 24 _ [(.int (0 : Int32))]) (fun T A t k => XS.iload A B.x rfl (B.d d20_22) rfl k) ?_
    exact g_retI B d20_24 (by decide) (by decide) ⟨by rw [if_pos hE0], rfl⟩
  · refine gs (mkF m 25 _ []) (fun T A t k => XS.icmpYes A B.x rfl (pc0 := 19) (pc' := 25) rfl (B.d d20_19) rfl (feq ((fun e => hE0 (lo_eq46 hr0.1 hl0 e)) : ¬ ((StrChars.lo8 c0) = (46 : Int32)))).2 (by decide) (by decide) k) ?_
    refine gs (mkF m 28 #[.val (.ref a1), .val (.int (46 : Int32)), .val (.int (0 : Int32)), .val (.int (3 : Int32)), .val (.int (46 : Int32)), .val (.int (1 : Int32))] []) (fun T A t k => XS.iinc A B.x rfl (B.d d20_25) rfl (l' := #[.val (.ref a1), .val (.int (46 : Int32)), .val (.int (0 : Int32)), .val (.int (3 : Int32)), .val (.int (46 : Int32)), .val (.int (1 : Int32))]) rfl k) ?_
    refine gs (mkF m 7 _ []) (fun T A t k => XS.goto A B.x rfl (pc0 := 28) (pc' := 7) rfl (B.d d20_28) (by decide) (by decide) k) ?_
    refine gs (mkF m 9 _ [(.int (1 : Int32))]) (fun T A t k => XS.iload A B.x rfl (B.d d20_7) rfl k) ?_
    refine gs (mkF m 10 _ [(.int (3 : Int32)), (.int (1 : Int32))]) (fun T A t k => XS.iloadN A B.x rfl (B.d d20_9) rfl k) ?_
    refine gs (mkF m 13 _ []) (fun T A t k => XS.icmpNo A B.x rfl (B.d d20_10) rfl (tlt (by decide : (1 : Int32) < (3 : Int32))).2.1 k) ?_
    refine gs (mkF m 14 _ [(.ref a1)]) (fun T A t k => XS.aloadN A B.x rfl (B.d d20_13) rfl rfl k) ?_
    refine gs (mkF m 16 _ [(.int (1 : Int32)), (.ref a1)]) (fun T A t k => XS.iload A B.x rfl (B.d d20_14) rfl k) ?_
    refine g_ldB B PA ⟨by decide, by decide⟩ (v := (.int (StrChars.lo8 c1))) rfl d20_16 (q := 17) rfl ?_
    refine gs (mkF m 19 _ [(.int (46 : Int32)), (.int (StrChars.lo8 c1))]) (fun T A t k => XS.iload A B.x rfl (B.d d20_17) rfl k) ?_
    by_cases hE1 : c1 = (46 : Int32)
    · refine gs (mkF m 22 _ []) (fun T A t k => XS.icmpNo A B.x rfl (B.d d20_19) rfl (teq ((by rw [hE1]; exact lo_46) : (StrChars.lo8 c1) = (46 : Int32))).2 k) ?_
      refine gs (mkF m 24 _ [(.int (1 : Int32))]) (fun T A t k => XS.iload A B.x rfl (B.d d20_22) rfl k) ?_
      exact g_retI B d20_24 (by decide) (by decide) ⟨by rw [if_neg hE0, if_pos hE1], rfl⟩
    · refine gs (mkF m 25 _ []) (fun T A t k => XS.icmpYes A B.x rfl (pc0 := 19) (pc' := 25) rfl (B.d d20_19) rfl (feq ((fun e => hE1 (lo_eq46 hr1.1 hl1 e)) : ¬ ((StrChars.lo8 c1) = (46 : Int32)))).2 (by decide) (by decide) k) ?_
      refine gs (mkF m 28 #[.val (.ref a1), .val (.int (46 : Int32)), .val (.int (0 : Int32)), .val (.int (3 : Int32)), .val (.int (46 : Int32)), .val (.int (2 : Int32))] []) (fun T A t k => XS.iinc A B.x rfl (B.d d20_25) rfl (l' := #[.val (.ref a1), .val (.int (46 : Int32)), .val (.int (0 : Int32)), .val (.int (3 : Int32)), .val (.int (46 : Int32)), .val (.int (2 : Int32))]) rfl k) ?_
      refine gs (mkF m 7 _ []) (fun T A t k => XS.goto A B.x rfl (pc0 := 28) (pc' := 7) rfl (B.d d20_28) (by decide) (by decide) k) ?_
      refine gs (mkF m 9 _ [(.int (2 : Int32))]) (fun T A t k => XS.iload A B.x rfl (B.d d20_7) rfl k) ?_
      refine gs (mkF m 10 _ [(.int (3 : Int32)), (.int (2 : Int32))]) (fun T A t k => XS.iloadN A B.x rfl (B.d d20_9) rfl k) ?_
      refine gs (mkF m 13 _ []) (fun T A t k => XS.icmpNo A B.x rfl (B.d d20_10) rfl (tlt (by decide : (2 : Int32) < (3 : Int32))).2.1 k) ?_
      refine gs (mkF m 14 _ [(.ref a1)]) (fun T A t k => XS.aloadN A B.x rfl (B.d d20_13) rfl rfl k) ?_
      refine gs (mkF m 16 _ [(.int (2 : Int32)), (.ref a1)]) (fun T A t k => XS.iload A B.x rfl (B.d d20_14) rfl k) ?_
      refine g_ldB B PA ⟨by decide, by decide⟩ (v := (.int (StrChars.lo8 c2))) rfl d20_16 (q := 17) rfl ?_
      refine gs (mkF m 19 _ [(.int (46 : Int32)), (.int (StrChars.lo8 c2))]) (fun T A t k => XS.iload A B.x rfl (B.d d20_17) rfl k) ?_
      by_cases hE2 : c2 = (46 : Int32)
      · refine gs (mkF m 22 _ []) (fun T A t k => XS.icmpNo A B.x rfl (B.d d20_19) rfl (teq ((by rw [hE2]; exact lo_46) : (StrChars.lo8 c2) = (46 : Int32))).2 k) ?_
        refine gs (mkF m 24 _ [(.int (2 : Int32))]) (fun T A t k => XS.iload A B.x rfl (B.d d20_22) rfl k) ?_
        exact g_retI B d20_24 (by decide) (by decide) ⟨by rw [if_neg hE0, if_neg hE1, if_pos hE2], rfl⟩
      · refine gs (mkF m 25 _ []) (fun T A t k => XS.icmpYes A B.x rfl (pc0 := 19) (pc' := 25) rfl (B.d d20_19) rfl (feq ((fun e => hE2 (lo_eq46 hr2.1 hl2 e)) : ¬ ((StrChars.lo8 c2) = (46 : Int32)))).2 (by decide) (by decide) k) ?_
        refine gs (mkF m 28 #[.val (.ref a1), .val (.int (46 : Int32)), .val (.int (0 : Int32)), .val (.int (3 : Int32)), .val (.int (46 : Int32)), .val (.int (3 : Int32))] []) (fun T A t k => XS.iinc A B.x rfl (B.d d20_25) rfl (l' := #[.val (.ref a1), .val (.int (46 : Int32)), .val (.int (0 : Int32)), .val (.int (3 : Int32)), .val (.int (46 : Int32)), .val (.int (3 : Int32))]) rfl k) ?_
        refine gs (mkF m 7 _ []) (fun T A t k => XS.goto A B.x rfl (pc0 := 28) (pc' := 7) rfl (B.d d20_28) (by decide) (by decide) k) ?_
        refine gs (mkF m 9 _ [(.int (3 : Int32))]) (fun T A t k => XS.iload A B.x rfl (B.d d20_7) rfl k) ?_
        refine gs (mkF m 10 _ [(.int (3 : Int32)), (.int (3 : Int32))]) (fun T A t k => XS.iloadN A B.x rfl (B.d d20_9) rfl k) ?_
        refine gs (mkF m 31 _ []) (fun T A t k => XS.icmpYes A B.x rfl (pc0 := 10) (pc' := 31) rfl (B.d d20_10) rfl (flt (by decide : ¬ ((3 : Int32) < (3 : Int32)))).2.1 (by decide) (by decide) k) ?_
        refine gs (mkF m 32 _ [(.int (-1 : Int32))]) (fun T A t k => XS.iconst A B.x rfl (B.d d20_31) k) ?_
        exact g_retI B d20_32 (by decide) (by decide) ⟨by rw [if_neg hE0, if_neg hE1, if_neg hE2], rfl⟩
set_option maxRecDepth 65536 in
set_option maxHeartbeats 40000000 in
theorem n_l_indexOf_46_3 (l : Launch) (Z : State) (a0 : Array Value) (hw : ∀ d ∈ tables_1, d.before a0 Z = true) (hEL : EW Z a0 []) (a1 : Addr) (zc : Int32) (rv : Value) (kb : ClassId) (c0 c1 c2 : Int32) (h0 : Heap) (n0 : Nat) (PA : Arv Z h0 a1 kb .byte (3 : Int32) [(.int (StrChars.lo8 c0)), (.int (StrChars.lo8 c1)), (.int (StrChars.lo8 c2))] (.int (0 : Int32))) (hr0 : rng c0) (hr1 : rng c1) (hr2 : rng c2) (hl0 : ¬ (255 : Int32) < c0) (hl1 : ¬ (255 : Int32) < c1) (hl2 : ¬ (255 : Int32) < c2) (PX : Sts Z zc rv) (PO : Old Z n0 h0) :
    Met false Z [] l (⟨"java/lang/StringLatin1", "indexOf", "([BIII)I"⟩ : MethodName) jdk_43_method_22_code 4 (some .int) ({ frames := 1, cells := 0, slots := 0, locals := 17 } : Room) #[(.ref a1), (.int (46 : Int32)), (.int (0 : Int32)), (.int (3 : Int32))] h0 [] n0 (fun v h => v = some (.int (if c0 = (46 : Int32) then (0 : Int32) else (if c1 = (46 : Int32) then (1 : Int32) else (if c2 = (46 : Int32) then (2 : Int32) else (-1 : Int32))))) ∧ h0 = h) := by
  refine Met.of (a0 := a0) (Ls := #[.val (.ref a1), .val (.int (46 : Int32)), .val (.int (0 : Int32)), .val (.int (3 : Int32))]) (fun z => rfl) (plainFor_of_name pn_java_lang_StringLatin1) hEL (fun m => by first | (simp [entryFrame, mkF, argsToLocals, Value.category]; done) | rfl) ?_
  intro p e s m below meth c B hSf
  obtain ⟨SC, hzc, SA, SH, SL, SF, rf⟩ := id PX
  refine gs (mkF m 1 _ [(.int (46 : Int32))]) (fun T A t k => XS.iloadN A B.x rfl (B.d d11_0) rfl k) ?_
  refine g_metN (c_static B (hw _ (List.mem_of_getElem? (i := 61) rfl)) (hw _ (List.mem_of_getElem? (i := 62) rfl)) (hw _ (List.mem_of_getElem? (i := 59) rfl)) (hw _ (List.mem_of_getElem? (i := 63) rfl)) (by decide) rfl (lenOf pd_28I29Z rfl) rfl (Nat.le_of_eq rfl) d11_1 rfl (argsL := [(.int (46 : Int32))]) (rest := []) (W := 0) (q := 4)) (n_ce_46 l Z a0 hw hEL  h0 n0) (hw _ (List.mem_of_getElem? (i := 63) rfl)) (hw _ (List.mem_of_getElem? (i := 59) rfl)) (by decide) (by decide) (by decide) (by decide) ?_
  intro v21 h21 hz21 hQ21
  obtain ⟨rfl, rfl⟩ := hQ21
  refine gs (mkF m 9 _ []) (fun T A t k => XS.ifYes A B.x rfl (pc0 := 4) (pc' := 9) rfl (B.d d11_4) rfl ((if0 _ _).trans (feq (by decide : ¬ ((1 : Int32) = (0 : Int32)))).2) (by decide) (by decide) k) ?_
  refine gs (mkF m 10 _ [(.int (0 : Int32))]) (fun T A t k => XS.iloadN A B.x rfl (B.d d11_9) rfl k) ?_
  refine gs (mkF m 11 _ [(.int (0 : Int32)), (.int (0 : Int32))]) (fun T A t k => XS.iconst A B.x rfl (B.d d11_10) k) ?_
  refine g_metN (c_static B (hw _ (List.mem_of_getElem? (i := 64) rfl)) (hw _ (List.mem_of_getElem? (i := 65) rfl)) (hw _ (List.mem_of_getElem? (i := 66) rfl)) (hw _ (List.mem_of_getElem? (i := 67) rfl)) (by decide) rfl (lenOf pd_28II29I rfl) rfl (Nat.le_of_eq rfl) d11_11 rfl (argsL := [(.int (0 : Int32)), (.int (0 : Int32))]) (rest := []) (W := 0) (q := 14)) (n_max_0_0 l Z a0 hw hEL  h0 n0) (hw _ (List.mem_of_getElem? (i := 67) rfl)) (hw _ (List.mem_of_getElem? (i := 66) rfl)) (by decide) (by decide) (by decide) (by decide) ?_
  intro v22 h22 hz22 hQ22
  obtain ⟨rfl, rfl⟩ := hQ22
  refine gs (mkF m 15 #[.val (.ref a1), .val (.int (46 : Int32)), .val (.int (0 : Int32)), .val (.int (3 : Int32))] []) (fun T A t k => XS.istoreN A B.x rfl (B.d d11_14) rfl (l' := #[.val (.ref a1), .val (.int (46 : Int32)), .val (.int (0 : Int32)), .val (.int (3 : Int32))]) rfl k) ?_
  refine gs (mkF m 16 _ [(.int (3 : Int32))]) (fun T A t k => XS.iloadN A B.x rfl (B.d d11_15) rfl k) ?_
  refine gs (mkF m 17 _ [(.ref a1), (.int (3 : Int32))]) (fun T A t k => XS.aloadN A B.x rfl (B.d d11_16) rfl rfl k) ?_
  refine g_len B PA d11_17 (q := 18) rfl ?_
  refine g_metN (c_static B (hw _ (List.mem_of_getElem? (i := 68) rfl)) (hw _ (List.mem_of_getElem? (i := 69) rfl)) (hw _ (List.mem_of_getElem? (i := 66) rfl)) (hw _ (List.mem_of_getElem? (i := 70) rfl)) (by decide) rfl (lenOf pd_28II29I rfl) rfl (Nat.le_of_eq rfl) d11_18 rfl (argsL := [(.int (3 : Int32)), (.int (3 : Int32))]) (rest := []) (W := 0) (q := 21)) (n_min_3_3 l Z a0 hw hEL  h0 n0) (hw _ (List.mem_of_getElem? (i := 70) rfl)) (hw _ (List.mem_of_getElem? (i := 66) rfl)) (by decide) (by decide) (by decide) (by decide) ?_
  intro v23 h23 hz23 hQ23
  obtain ⟨rfl, rfl⟩ := hQ23
  refine gs (mkF m 22 #[.val (.ref a1), .val (.int (46 : Int32)), .val (.int (0 : Int32)), .val (.int (3 : Int32))] []) (fun T A t k => XS.istoreN A B.x rfl (B.d d11_21) rfl (l' := #[.val (.ref a1), .val (.int (46 : Int32)), .val (.int (0 : Int32)), .val (.int (3 : Int32))]) rfl k) ?_
  refine gs (mkF m 23 _ [(.int (0 : Int32))]) (fun T A t k => XS.iloadN A B.x rfl (B.d d11_22) rfl k) ?_
  refine gs (mkF m 24 _ [(.int (3 : Int32)), (.int (0 : Int32))]) (fun T A t k => XS.iloadN A B.x rfl (B.d d11_23) rfl k) ?_
  refine gs (mkF m 29 _ []) (fun T A t k => XS.icmpYes A B.x rfl (pc0 := 24) (pc' := 29) rfl (B.d d11_24) rfl (tlt (by decide : (0 : Int32) < (3 : Int32))).1 (by decide) (by decide) k) ?_
  refine gs (mkF m 30 _ [(.ref a1)]) (fun T A t k => XS.aloadN A B.x rfl (B.d d11_29) rfl rfl k) ?_
  refine gs (mkF m 31 _ [(.int (46 : Int32)), (.ref a1)]) (fun T A t k => XS.iloadN A B.x rfl (B.d d11_30) rfl k) ?_
  refine gs (mkF m 32 _ [(.int (0 : Int32)), (.int (46 : Int32)), (.ref a1)]) (fun T A t k => XS.iloadN A B.x rfl (B.d d11_31) rfl k) ?_
  refine gs (mkF m 33 _ [(.int (3 : Int32)), (.int (0 : Int32)), (.int (46 : Int32)), (.ref a1)]) (fun T A t k => XS.iloadN A B.x rfl (B.d d11_32) rfl k) ?_
  refine g_metN (c_static B (hw _ (List.mem_of_getElem? (i := 87) rfl)) (hw _ (List.mem_of_getElem? (i := 88) rfl)) (hw _ (List.mem_of_getElem? (i := 59) rfl)) (hw _ (List.mem_of_getElem? (i := 89) rfl)) (by decide) rfl (lenOf pd_285bBIII29I rfl) rfl (Nat.le_of_eq rfl) d11_33 rfl (argsL := [(.ref a1), (.int (46 : Int32)), (.int (0 : Int32)), (.int (3 : Int32))]) (rest := []) (W := 0) (q := 36)) (n_l_indexOfChar_46_3 l Z a0 hw hEL a1 zc rv kb c0 c1 c2 h0 n0 PA hr0 hr1 hr2 hl0 hl1 hl2 PX PO) (hw _ (List.mem_of_getElem? (i := 89) rfl)) (hw _ (List.mem_of_getElem? (i := 59) rfl)) (by decide) (by decide) (by decide) (by decide) ?_
  intro v24 h24 hz24 hQ24
  obtain ⟨rfl, rfl⟩ := hQ24
  exact g_retI B d11_36 (by decide) (by decide) ⟨rfl, rfl⟩
set_option maxRecDepth 65536 in
set_option maxHeartbeats 40000000 in
theorem n_length_6_1 (l : Launch) (Z : State) (a0 : Array Value) (hw : ∀ d ∈ tables_1, d.before a0 Z = true) (hEL : EW Z a0 []) (a1 : Addr) (zc : Int32) (rv : Value) (t : Addr) (kb : ClassId) (c0 c1 c2 : Int32) (h0 : Heap) (n0 : Nat) (PE : Exa Z h0 a1 "java/lang/String") (PC : Fld Z h0 a1 "java/lang/String" "coder" "B" (.int (1 : Int32))) (PV : Fld Z h0 a1 "java/lang/String" "value" "[B" (.ref t)) (PA : Arv Z h0 t kb .byte (6 : Int32) [(.int (StrChars.lo8 c0)), (.int (StrChars.hi8 c0)), (.int (StrChars.lo8 c1)), (.int (StrChars.hi8 c1)), (.int (StrChars.lo8 c2)), (.int (StrChars.hi8 c2))] (.int (0 : Int32))) (PX : Sts Z zc rv) (PO : Old Z n0 h0) :
    Met false Z [] l (⟨"java/lang/String", "length", "()I"⟩ : MethodName) jdk_42_method_54_code 1 (some .int) ({ frames := 1, cells := 0, slots := 0, locals := 13 } : Room) #[(.ref a1)] h0 [] n0 (fun v h => v = some (.int (3 : Int32)) ∧ h0 = h) := by
  refine Met.of (a0 := a0) (Ls := #[.val (.ref a1)]) (fun z => rfl) (plainFor_of_name pn_java_lang_String) hEL (fun m => by first | (simp [entryFrame, mkF, argsToLocals, Value.category]; done) | rfl) ?_
  intro p e s m below meth c B hSf
  obtain ⟨SC, hzc, SA, SH, SL, SF, rf⟩ := id PX
  refine gs (mkF m 1 _ [(.ref a1)]) (fun T A t k => XS.aloadN A B.x rfl (B.d d9_0) rfl rfl k) ?_
  refine g_getF B (hw _ (List.mem_of_getElem? (i := 25) rfl)) Via.refl PV d9_1 (q := 4) rfl ?_
  refine g_len B PA d9_4 (q := 5) rfl ?_
  refine gs (mkF m 6 _ [(.ref a1), (.int (6 : Int32))]) (fun T A t k => XS.aloadN A B.x rfl (B.d d9_5) rfl rfl k) ?_
  refine g_metN (c_virt B PE (hw _ (List.mem_of_getElem? (i := 52) rfl)) (hw _ (List.mem_of_getElem? (i := 53) rfl)) (hw _ (List.mem_of_getElem? (i := 55) rfl)) (hw _ (List.mem_of_getElem? (i := 54) rfl)) (nfs (z := (⟨"java/lang/String", "coder", "()B"⟩ : MethodName)) (hw _ (List.mem_of_getElem? (i := 55) rfl))) (by decide) rfl (lenOf pd_2829B rfl) rfl (Nat.le_of_eq rfl) d9_6 rfl (argsL := []) (rest := [(.int (6 : Int32))]) (W := 1) (q := 9)) (n_coder_1 l Z a0 hw hEL a1 zc rv h0 n0 PE PC PX PO) (hw _ (List.mem_of_getElem? (i := 56) rfl)) (hw _ (List.mem_of_getElem? (i := 7) rfl)) (by decide) (by decide) (by decide) (by decide) ?_
  intro v21 h21 hz21 hQ21
  obtain ⟨rfl, rfl⟩ := hQ21
  refine gs (mkF m 10 _ [(.int (3 : Int32))]) (fun T A t k => XS.ishr A B.x rfl (B.d d9_9) rfl k) ?_
  exact g_retI B d9_10 (by decide) (by decide) ⟨rfl, rfl⟩
set_option maxRecDepth 65536 in
set_option maxHeartbeats 40000000 in
theorem n_ulen_6 (l : Launch) (Z : State) (a0 : Array Value) (hw : ∀ d ∈ tables_1, d.before a0 Z = true) (hEL : EW Z a0 []) (a1 : Addr) (kb : ClassId) (c0 c1 c2 : Int32) (h0 : Heap) (n0 : Nat) (PA : Arv Z h0 a1 kb .byte (6 : Int32) [(.int (StrChars.lo8 c0)), (.int (StrChars.hi8 c0)), (.int (StrChars.lo8 c1)), (.int (StrChars.hi8 c1)), (.int (StrChars.lo8 c2)), (.int (StrChars.hi8 c2))] (.int (0 : Int32))) :
    Met false Z [] l (⟨"java/lang/StringUTF16", "length", "([B)I"⟩ : MethodName) jdk_52_method_6_code 1 (some .int) ({ frames := 0, cells := 0, slots := 0, locals := 0 } : Room) #[(.ref a1)] h0 [] n0 (fun v h => v = some (.int (3 : Int32)) ∧ h0 = h) := by
  refine Met.of (a0 := a0) (Ls := #[.val (.ref a1)]) (fun z => rfl) (plainFor_of_name pn_java_lang_StringUTF16) hEL (fun m => by first | (simp [entryFrame, mkF, argsToLocals, Value.category]; done) | rfl) ?_
  intro p e s m below meth c B hSf
  refine gs (mkF m 1 _ [(.ref a1)]) (fun T A t k => XS.aloadN A B.x rfl (B.d d29_0) rfl rfl k) ?_
  refine g_len B PA d29_1 (q := 2) rfl ?_
  refine gs (mkF m 3 _ [(.int (1 : Int32)), (.int (6 : Int32))]) (fun T A t k => XS.iconst A B.x rfl (B.d d29_2) k) ?_
  refine gs (mkF m 4 _ [(.int (3 : Int32))]) (fun T A t k => XS.ishr A B.x rfl (B.d d29_3) rfl k) ?_
  exact g_retI B d29_4 (by decide) (by decide) ⟨rfl, rfl⟩
set_option maxRecDepth 65536 in
set_option maxHeartbeats 40000000 in
theorem n_cfi_3 (l : Launch) (Z : State) (a0 : Array Value) (hw : ∀ d ∈ tables_1, d.before a0 Z = true) (hEL : EW Z a0 [])  (rv : Value) (h0 : Heap) (n0 : Nat) (rf : rv.isRef = true) :
    Met false Z [] l (⟨"jdk/internal/util/Preconditions", "checkFromToIndex", "(IIILjava/util/function/BiFunction;)I"⟩ : MethodName) jdk_41_method_12_code 4 (some .int) ({ frames := 0, cells := 0, slots := 0, locals := 0 } : Room) #[(.int (0 : Int32)), (.int (3 : Int32)), (.int (3 : Int32)), rv] h0 [] n0 (fun v h => v = some (.int (0 : Int32)) ∧ h0 = h) := by
  refine Met.of (a0 := a0) (Ls := #[.val (.int (0 : Int32)), .val (.int (3 : Int32)), .val (.int (3 : Int32)), .val rv]) (fun z => rfl) (plainFor_of_name pn_jdk_internal_util_Preconditions) hEL (fun m => by first | (simp [entryFrame, mkF, argsToLocals, Value.category]; done) | rfl | (rcases ref_cases rf with rfl | ⟨a, rfl⟩ <;> first | rfl | (simp [entryFrame, mkF, argsToLocals, Value.category]; done))) ?_
  intro p e s m below meth c B hSf
  refine gs (mkF m 1 _ [(.int (0 : Int32))]) (fun T A t k => XS.iloadN A B.x rfl (B.d d31_0) rfl k) ?_
  refine gs (mkF m 4 _ []) (fun T A t k => XS.ifNo A B.x rfl (B.d d31_1) rfl ((if0 _ _).trans (flt (by decide : ¬ ((0 : Int32) < (0 : Int32)))).1) k) ?_
  refine gs (mkF m 5 _ [(.int (0 : Int32))]) (fun T A t k => XS.iloadN A B.x rfl (B.d d31_4) rfl k) ?_
  refine gs (mkF m 6 _ [(.int (3 : Int32)), (.int (0 : Int32))]) (fun T A t k => XS.iloadN A B.x rfl (B.d d31_5) rfl k) ?_
  refine gs (mkF m 9 _ []) (fun T A t k => XS.icmpNo A B.x rfl (B.d d31_6) rfl (flt (by decide : ¬ ((3 : Int32) < (0 : Int32)))).2.2.1 k) ?_
  refine gs (mkF m 10 _ [(.int (3 : Int32))]) (fun T A t k => XS.iloadN A B.x rfl (B.d d31_9) rfl k) ?_
  refine gs (mkF m 11 _ [(.int (3 : Int32)), (.int (3 : Int32))]) (fun T A t k => XS.iloadN A B.x rfl (B.d d31_10) rfl k) ?_
  refine gs (mkF m 22 _ []) (fun T A t k => XS.icmpYes A B.x rfl (pc0 := 11) (pc' := 22) rfl (B.d d31_11) rfl (flt (by decide : ¬ ((3 : Int32) < (3 : Int32)))).2.2.2 (by decide) (by decide) k) ?_
  refine gs (mkF m 23 _ [(.int (0 : Int32))]) (fun T A t k => XS.iloadN A B.x rfl (B.d d31_22) rfl k) ?_
  exact g_retI B d31_23 (by decide) (by decide) ⟨rfl, rfl⟩
set_option maxRecDepth 65536 in
set_option maxHeartbeats 40000000 in
theorem n_cb_3 (l : Launch) (Z : State) (a0 : Array Value) (hw : ∀ d ∈ tables_1, d.before a0 Z = true) (hEL : EW Z a0 [])  (zc : Int32) (rv : Value) (h0 : Heap) (n0 : Nat) (PX : Sts Z zc rv) (PO : Old Z n0 h0) :
    Met false Z [] l (⟨"java/lang/String", "checkBoundsBeginEnd", "(III)V"⟩ : MethodName) jdk_42_method_158_code 3 none ({ frames := 1, cells := 0, slots := 0, locals := 15 } : Room) #[(.int (0 : Int32)), (.int (3 : Int32)), (.int (3 : Int32))] h0 [] n0 (fun v h => v = none ∧ h0 = h) := by
  refine Met.of (a0 := a0) (Ls := #[.val (.int (0 : Int32)), .val (.int (3 : Int32)), .val (.int (3 : Int32))]) (fun z => rfl) (plainFor_of_name pn_java_lang_String) hEL (fun m => by first | (simp [entryFrame, mkF, argsToLocals, Value.category]; done) | rfl) ?_
  intro p e s m below meth c B hSf
  obtain ⟨SC, hzc, SA, SH, SL, SF, rf⟩ := id PX
  refine gs (mkF m 1 _ [(.int (0 : Int32))]) (fun T A t k => XS.iloadN A B.x rfl (B.d d30_0) rfl k) ?_
  refine gs (mkF m 2 _ [(.int (3 : Int32)), (.int (0 : Int32))]) (fun T A t k => XS.iloadN A B.x rfl (B.d d30_1) rfl k) ?_
  refine gs (mkF m 3 _ [(.int (3 : Int32)), (.int (3 : Int32)), (.int (0 : Int32))]) (fun T A t k => XS.iloadN A B.x rfl (B.d d30_2) rfl k) ?_
  refine g_getS B (hw _ (List.mem_of_getElem? (i := 127) rfl)) (SF.ext PO.2) d30_3 (q := 6) rfl ?_
  refine g_metN (c_static B (hw _ (List.mem_of_getElem? (i := 129) rfl)) (hw _ (List.mem_of_getElem? (i := 130) rfl)) (hw _ (List.mem_of_getElem? (i := 128) rfl)) (hw _ (List.mem_of_getElem? (i := 131) rfl)) (by decide) rfl (lenOf pd_28IIILjava2futil2ffunction2fBiFunction3b29I rfl) rfl (Nat.le_of_eq rfl) d30_6 rfl (argsL := [(.int (0 : Int32)), (.int (3 : Int32)), (.int (3 : Int32)), rv]) (rest := []) (W := 0) (q := 9)) (n_cfi_3 l Z a0 hw hEL (rv) h0 n0 rf) (hw _ (List.mem_of_getElem? (i := 131) rfl)) (hw _ (List.mem_of_getElem? (i := 128) rfl)) (by decide) (by decide) (by decide) (by decide) ?_
  intro v21 h21 hz21 hQ21
  obtain ⟨rfl, rfl⟩ := hQ21
  refine gs (mkF m 10 _ []) (fun T A t k => XS.pop A B.x rfl (B.d d30_9) rfl rfl k) ?_
  exact g_ret0 B d30_10 (by decide) (by decide) ⟨rfl, rfl⟩
set_option maxRecDepth 65536 in
set_option maxHeartbeats 40000000 in
theorem n_cu_6 (l : Launch) (Z : State) (a0 : Array Value) (hw : ∀ d ∈ tables_1, d.before a0 Z = true) (hEL : EW Z a0 []) (a1 : Addr) (zc : Int32) (rv : Value) (kb : ClassId) (c0 c1 c2 : Int32) (h0 : Heap) (n0 : Nat) (PA : Arv Z h0 a1 kb .byte (6 : Int32) [(.int (StrChars.lo8 c0)), (.int (StrChars.hi8 c0)), (.int (StrChars.lo8 c1)), (.int (StrChars.hi8 c1)), (.int (StrChars.lo8 c2)), (.int (StrChars.hi8 c2))] (.int (0 : Int32))) (PX : Sts Z zc rv) (PO : Old Z n0 h0) :
    Met false Z [] l (⟨"java/lang/StringUTF16", "checkBoundsBeginEnd", "(II[B)V"⟩ : MethodName) jdk_52_method_93_code 3 none ({ frames := 2, cells := 0, slots := 0, locals := 29 } : Room) #[(.int (0 : Int32)), (.int (3 : Int32)), (.ref a1)] h0 [] n0 (fun v h => v = none ∧ h0 = h) := by
  refine Met.of (a0 := a0) (Ls := #[.val (.int (0 : Int32)), .val (.int (3 : Int32)), .val (.ref a1)]) (fun z => rfl) (plainFor_of_name pn_java_lang_StringUTF16) hEL (fun m => by first | (simp [entryFrame, mkF, argsToLocals, Value.category]; done) | rfl) ?_
  intro p e s m below meth c B hSf
  obtain ⟨SC, hzc, SA, SH, SL, SF, rf⟩ := id PX
  refine gs (mkF m 1 _ [(.int (0 : Int32))]) (fun T A t k => XS.iloadN A B.x rfl (B.d d28_0) rfl k) ?_
  refine gs (mkF m 2 _ [(.int (3 : Int32)), (.int (0 : Int32))]) (fun T A t k => XS.iloadN A B.x rfl (B.d d28_1) rfl k) ?_
  refine gs (mkF m 3 _ [(.ref a1), (.int (3 : Int32)), (.int (0 : Int32))]) (fun T A t k => XS.aloadN A B.x rfl (B.d d28_2) rfl rfl k) ?_
  refine g_metN (c_static B (hw _ (List.mem_of_getElem? (i := 121) rfl)) (hw _ (List.mem_of_getElem? (i := 122) rfl)) (hw _ (List.mem_of_getElem? (i := 76) rfl)) (hw _ (List.mem_of_getElem? (i := 123) rfl)) (by decide) rfl (lenOf pd_285bB29I rfl) rfl (Nat.le_of_eq rfl) d28_3 rfl (argsL := [(.ref a1)]) (rest := [(.int (3 : Int32)), (.int (0 : Int32))]) (W := 2) (q := 6)) (n_ulen_6 l Z a0 hw hEL a1 kb c0 c1 c2 h0 n0 PA) (hw _ (List.mem_of_getElem? (i := 123) rfl)) (hw _ (List.mem_of_getElem? (i := 76) rfl)) (by decide) (by decide) (by decide) (by decide) ?_
  intro v21 h21 hz21 hQ21
  obtain ⟨rfl, rfl⟩ := hQ21
  refine g_metN (c_static B (hw _ (List.mem_of_getElem? (i := 124) rfl)) (hw _ (List.mem_of_getElem? (i := 125) rfl)) (hw _ (List.mem_of_getElem? (i := 7) rfl)) (hw _ (List.mem_of_getElem? (i := 126) rfl)) (by decide) rfl (lenOf pd_28III29V rfl) rfl (Nat.le_of_eq rfl) d28_6 rfl (argsL := [(.int (0 : Int32)), (.int (3 : Int32)), (.int (3 : Int32))]) (rest := []) (W := 0) (q := 9)) (n_cb_3 l Z a0 hw hEL  zc rv h0 n0 PX PO) (hw _ (List.mem_of_getElem? (i := 126) rfl)) (hw _ (List.mem_of_getElem? (i := 7) rfl)) (by decide) (by decide) (by decide) (by decide) ?_
  intro v22 h22 hz22 hQ22
  obtain ⟨rfl, rfl⟩ := hQ22
  exact g_ret0 B d28_9 (by decide) (by decide) ⟨rfl, rfl⟩
set_option maxRecDepth 65536 in
set_option maxHeartbeats 40000000 in
theorem n_u_indexOfCharUnsafe_46_3 (l : Launch) (Z : State) (a0 : Array Value) (hw : ∀ d ∈ tables_1, d.before a0 Z = true) (hEL : EW Z a0 []) (a1 : Addr) (zc : Int32) (rv : Value) (kb : ClassId) (c0 c1 c2 : Int32) (h0 : Heap) (n0 : Nat) (PA : Arv Z h0 a1 kb .byte (6 : Int32) [(.int (StrChars.lo8 c0)), (.int (StrChars.hi8 c0)), (.int (StrChars.lo8 c1)), (.int (StrChars.hi8 c1)), (.int (StrChars.lo8 c2)), (.int (StrChars.hi8 c2))] (.int (0 : Int32))) (hr0 : rng c0) (hr1 : rng c1) (hr2 : rng c2) (PX : Sts Z zc rv) (PO : Old Z n0 h0) :
    Met false Z [] l (⟨"java/lang/StringUTF16", "indexOfCharUnsafe", "([BIII)I"⟩ : MethodName) jdk_52_method_48_code 5 (some .int) ({ frames := 1, cells := 0, slots := 0, locals := 13 } : Room) #[(.ref a1), (.int (46 : Int32)), (.int (0 : Int32)), (.int (3 : Int32))] h0 [] n0 (fun v h => v = some (.int (if c0 = (46 : Int32) then (0 : Int32) else (if c1 = (46 : Int32) then (1 : Int32) else (if c2 = (46 : Int32) then (2 : Int32) else (-1 : Int32))))) ∧ h0 = h) := by
  refine Met.of (a0 := a0) (Ls := #[.val (.ref a1), .val (.int (46 : Int32)), .val (.int (0 : Int32)), .val (.int (3 : Int32)), .unset]) (fun z => rfl) (plainFor_of_name pn_java_lang_StringUTF16) hEL (fun m => by first | (simp [entryFrame, mkF, argsToLocals, Value.category]; done) | rfl) ?_
  intro p e s m below meth c B hSf
  obtain ⟨SC, hzc, SA, SH, SL, SF, rf⟩ := id PX
  refine gs (mkF m 1 _ [(.int (0 : Int32))]) (fun T A t k => XS.iloadN A B.x rfl (B.d d32_0) rfl k) ?_
  refine gs (mkF m 3 #[.val (.ref a1), .val (.int (46 : Int32)), .val (.int (0 : Int32)), .val (.int (3 : Int32)), .val (.int (0 : Int32))] []) (fun T A t k => XS.istore A B.x rfl (B.d d32_1) rfl (l' := #[.val (.ref a1), .val (.int (46 : Int32)), .val (.int (0 : Int32)), .val (.int (3 : Int32)), .val (.int (0 : Int32))]) rfl k) ?_
  refine gs (mkF m 5 _ [(.int (0 : Int32))]) (fun T A t k => XS.iload A B.x rfl (B.d d32_3) rfl k) ?_
  refine gs (mkF m 6 _ [(.int (3 : Int32)), (.int (0 : Int32))]) (fun T A t k => XS.iloadN A B.x rfl (B.d d32_5) rfl k) ?_
  refine gs (mkF m 9 _ []) (fun T A t k => XS.icmpNo A B.x rfl (B.d d32_6) rfl (tlt (by decide : (0 : Int32) < (3 : Int32))).2.1 k) ?_
  refine gs (mkF m 10 _ [(.ref a1)]) (fun T A t k => XS.aloadN A B.x rfl (B.d d32_9) rfl rfl k) ?_
  refine gs (mkF m 12 _ [(.int (0 : Int32)), (.ref a1)]) (fun T A t k => XS.iload A B.x rfl (B.d d32_10) rfl k) ?_
  refine g_metN (c_static B (hw _ (List.mem_of_getElem? (i := 106) rfl)) (hw _ (List.mem_of_getElem? (i := 107) rfl)) (hw _ (List.mem_of_getElem? (i := 76) rfl)) (hw _ (List.mem_of_getElem? (i := 108) rfl)) (by decide) rfl (lenOf pd_285bBI29C rfl) rfl (Nat.le_of_eq rfl) d32_12 rfl (argsL := [(.ref a1), (.int (0 : Int32))]) (rest := []) (W := 0) (q := 15)) (n_gc_6_0 l Z a0 hw hEL a1 zc rv kb c0 c1 c2 h0 n0 PA hr0 PX PO) (hw _ (List.mem_of_getElem? (i := 108) rfl)) (hw _ (List.mem_of_getElem? (i := 76) rfl)) (by decide) (by decide) (by decide) (by decide) ?_
  intro v21 h21 hz21 hQ21
  obtain ⟨rfl, rfl⟩ := hQ21
  refine gs (mkF m 16 _ [(.int (46 : Int32)), (.int c0)]) (fun T A t k => XS.iloadN A B.x rfl (B.d d32_15) rfl k) ?_
  by_cases hE0 : c0 = (46 : Int32)
  · refine gs (mkF m 19 _ []) (fun T A t k => XS.icmpNo A B.x rfl (B.d d32_16) rfl (teq (hE0 : c0 = (46 : Int32))).2 k) ?_
    refine gs (mkF m 21 _ [(.int (0 : Int32))]) (fun T A t k => XS.iload A B.x rfl (B.d d32_19) rfl k) ?_
    exact g_retI B d32_21 (by decide) (by decide) ⟨by rw [if_pos hE0], rfl⟩
  · refine gs (mkF m 22 _ []) (fun T A t k => XS.icmpYes A B.x rfl (pc0 := 16) (pc' := 22) rfl (B.d d32_16) rfl (feq (hE0 : ¬ (c0 = (46 : Int32)))).2 (by decide) (by decide) k) ?_
    refine gs (mkF m 25 #[.val (.ref a1), .val (.int (46 : Int32)), .val (.int (0 : Int32)), .val (.int (3 : Int32)), .val (.int (1 : Int32))] []) (fun T A t k => XS.iinc A B.x rfl (B.d d32_22) rfl (l' := #[.val (.ref a1), .val (.int (46 : Int32)), .val (.int (0 : Int32)), .val (.int (3 : Int32)), .val (.int (1 : Int32))]) rfl k) ?_
    refine gs (mkF m 3 _ []) (fun T A t k => XS.goto A B.x rfl (pc0 := 25) (pc' := 3) rfl (B.d d32_25) (by decide) (by decide) k) ?_
    refine gs (mkF m 5 _ [(.int (1 : Int32))]) (fun T A t k => XS.iload A B.x rfl (B.d d32_3) rfl k) ?_
    refine gs (mkF m 6 _ [(.int (3 : Int32)), (.int (1 : Int32))]) (fun T A t k => XS.iloadN A B.x rfl (B.d d32_5) rfl k) ?_
    refine gs (mkF m 9 _ []) (fun T A t k => XS.icmpNo A B.x rfl (B.d d32_6) rfl (tlt (by decide : (1 : Int32) < (3 : Int32))).2.1 k) ?_
    refine gs (mkF m 10 _ [(.ref a1)]) (fun T A t k => XS.aloadN A B.x rfl (B.d d32_9) rfl rfl k) ?_
    refine gs (mkF m 12 _ [(.int (1 : Int32)), (.ref a1)]) (fun T A t k => XS.iload A B.x rfl (B.d d32_10) rfl k) ?_
    refine g_metN (c_static B (hw _ (List.mem_of_getElem? (i := 106) rfl)) (hw _ (List.mem_of_getElem? (i := 107) rfl)) (hw _ (List.mem_of_getElem? (i := 76) rfl)) (hw _ (List.mem_of_getElem? (i := 108) rfl)) (by decide) rfl (lenOf pd_285bBI29C rfl) rfl (Nat.le_of_eq rfl) d32_12 rfl (argsL := [(.ref a1), (.int (1 : Int32))]) (rest := []) (W := 0) (q := 15)) (n_gc_6_1 l Z a0 hw hEL a1 zc rv kb c0 c1 c2 h0 n0 PA hr1 PX PO) (hw _ (List.mem_of_getElem? (i := 108) rfl)) (hw _ (List.mem_of_getElem? (i := 76) rfl)) (by decide) (by decide) (by decide) (by decide) ?_
    intro v22 h22 hz22 hQ22
    obtain ⟨rfl, rfl⟩ := hQ22
    refine gs (mkF m 16 _ [(.int (46 : Int32)), (.int c1)]) (fun T A t k => XS.iloadN A B.x rfl (B.d d32_15) rfl k) ?_
    by_cases hE1 : c1 = (46 : Int32)
    · refine gs (mkF m 19 _ []) (fun T A t k => XS.icmpNo A B.x rfl (B.d d32_16) rfl (teq (hE1 : c1 = (46 : Int32))).2 k) ?_
      refine gs (mkF m 21 _ [(.int (1 : Int32))]) (fun T A t k => XS.iload A B.x rfl (B.d d32_19) rfl k) ?_
      exact g_retI B d32_21 (by decide) (by decide) ⟨by rw [if_neg hE0, if_pos hE1], rfl⟩
    · refine gs (mkF m 22 _ []) (fun T A t k => XS.icmpYes A B.x rfl (pc0 := 16) (pc' := 22) rfl (B.d d32_16) rfl (feq (hE1 : ¬ (c1 = (46 : Int32)))).2 (by decide) (by decide) k) ?_
      refine gs (mkF m 25 #[.val (.ref a1), .val (.int (46 : Int32)), .val (.int (0 : Int32)), .val (.int (3 : Int32)), .val (.int (2 : Int32))] []) (fun T A t k => XS.iinc A B.x rfl (B.d d32_22) rfl (l' := #[.val (.ref a1), .val (.int (46 : Int32)), .val (.int (0 : Int32)), .val (.int (3 : Int32)), .val (.int (2 : Int32))]) rfl k) ?_
      refine gs (mkF m 3 _ []) (fun T A t k => XS.goto A B.x rfl (pc0 := 25) (pc' := 3) rfl (B.d d32_25) (by decide) (by decide) k) ?_
      refine gs (mkF m 5 _ [(.int (2 : Int32))]) (fun T A t k => XS.iload A B.x rfl (B.d d32_3) rfl k) ?_
      refine gs (mkF m 6 _ [(.int (3 : Int32)), (.int (2 : Int32))]) (fun T A t k => XS.iloadN A B.x rfl (B.d d32_5) rfl k) ?_
      refine gs (mkF m 9 _ []) (fun T A t k => XS.icmpNo A B.x rfl (B.d d32_6) rfl (tlt (by decide : (2 : Int32) < (3 : Int32))).2.1 k) ?_
      refine gs (mkF m 10 _ [(.ref a1)]) (fun T A t k => XS.aloadN A B.x rfl (B.d d32_9) rfl rfl k) ?_
      refine gs (mkF m 12 _ [(.int (2 : Int32)), (.ref a1)]) (fun T A t k => XS.iload A B.x rfl (B.d d32_10) rfl k) ?_
      refine g_metN (c_static B (hw _ (List.mem_of_getElem? (i := 106) rfl)) (hw _ (List.mem_of_getElem? (i := 107) rfl)) (hw _ (List.mem_of_getElem? (i := 76) rfl)) (hw _ (List.mem_of_getElem? (i := 108) rfl)) (by decide) rfl (lenOf pd_285bBI29C rfl) rfl (Nat.le_of_eq rfl) d32_12 rfl (argsL := [(.ref a1), (.int (2 : Int32))]) (rest := []) (W := 0) (q := 15)) (n_gc_6_2 l Z a0 hw hEL a1 zc rv kb c0 c1 c2 h0 n0 PA hr2 PX PO) (hw _ (List.mem_of_getElem? (i := 108) rfl)) (hw _ (List.mem_of_getElem? (i := 76) rfl)) (by decide) (by decide) (by decide) (by decide) ?_
      intro v23 h23 hz23 hQ23
      obtain ⟨rfl, rfl⟩ := hQ23
      refine gs (mkF m 16 _ [(.int (46 : Int32)), (.int c2)]) (fun T A t k => XS.iloadN A B.x rfl (B.d d32_15) rfl k) ?_
      by_cases hE2 : c2 = (46 : Int32)
      · refine gs (mkF m 19 _ []) (fun T A t k => XS.icmpNo A B.x rfl (B.d d32_16) rfl (teq (hE2 : c2 = (46 : Int32))).2 k) ?_
        refine gs (mkF m 21 _ [(.int (2 : Int32))]) (fun T A t k => XS.iload A B.x rfl (B.d d32_19) rfl k) ?_
        exact g_retI B d32_21 (by decide) (by decide) ⟨by rw [if_neg hE0, if_neg hE1, if_pos hE2], rfl⟩
      · refine gs (mkF m 22 _ []) (fun T A t k => XS.icmpYes A B.x rfl (pc0 := 16) (pc' := 22) rfl (B.d d32_16) rfl (feq (hE2 : ¬ (c2 = (46 : Int32)))).2 (by decide) (by decide) k) ?_
        refine gs (mkF m 25 #[.val (.ref a1), .val (.int (46 : Int32)), .val (.int (0 : Int32)), .val (.int (3 : Int32)), .val (.int (3 : Int32))] []) (fun T A t k => XS.iinc A B.x rfl (B.d d32_22) rfl (l' := #[.val (.ref a1), .val (.int (46 : Int32)), .val (.int (0 : Int32)), .val (.int (3 : Int32)), .val (.int (3 : Int32))]) rfl k) ?_
        refine gs (mkF m 3 _ []) (fun T A t k => XS.goto A B.x rfl (pc0 := 25) (pc' := 3) rfl (B.d d32_25) (by decide) (by decide) k) ?_
        refine gs (mkF m 5 _ [(.int (3 : Int32))]) (fun T A t k => XS.iload A B.x rfl (B.d d32_3) rfl k) ?_
        refine gs (mkF m 6 _ [(.int (3 : Int32)), (.int (3 : Int32))]) (fun T A t k => XS.iloadN A B.x rfl (B.d d32_5) rfl k) ?_
        refine gs (mkF m 28 _ []) (fun T A t k => XS.icmpYes A B.x rfl (pc0 := 6) (pc' := 28) rfl (B.d d32_6) rfl (flt (by decide : ¬ ((3 : Int32) < (3 : Int32)))).2.1 (by decide) (by decide) k) ?_
        refine gs (mkF m 29 _ [(.int (-1 : Int32))]) (fun T A t k => XS.iconst A B.x rfl (B.d d32_28) k) ?_
        exact g_retI B d32_29 (by decide) (by decide) ⟨by rw [if_neg hE0, if_neg hE1, if_neg hE2], rfl⟩
set_option maxRecDepth 65536 in
set_option maxHeartbeats 40000000 in
theorem n_u_indexOfChar_46_3 (l : Launch) (Z : State) (a0 : Array Value) (hw : ∀ d ∈ tables_1, d.before a0 Z = true) (hEL : EW Z a0 []) (a1 : Addr) (zc : Int32) (rv : Value) (kb : ClassId) (c0 c1 c2 : Int32) (h0 : Heap) (n0 : Nat) (PA : Arv Z h0 a1 kb .byte (6 : Int32) [(.int (StrChars.lo8 c0)), (.int (StrChars.hi8 c0)), (.int (StrChars.lo8 c1)), (.int (StrChars.hi8 c1)), (.int (StrChars.lo8 c2)), (.int (StrChars.hi8 c2))] (.int (0 : Int32))) (hr0 : rng c0) (hr1 : rng c1) (hr2 : rng c2) (PX : Sts Z zc rv) (PO : Old Z n0 h0) :
    Met false Z [] l (⟨"java/lang/StringUTF16", "indexOfChar", "([BIII)I"⟩ : MethodName) jdk_52_method_47_code 4 (some .int) ({ frames := 3, cells := 0, slots := 0, locals := 43 } : Room) #[(.ref a1), (.int (46 : Int32)), (.int (0 : Int32)), (.int (3 : Int32))] h0 [] n0 (fun v h => v = some (.int (if c0 = (46 : Int32) then (0 : Int32) else (if c1 = (46 : Int32) then (1 : Int32) else (if c2 = (46 : Int32) then (2 : Int32) else (-1 : Int32))))) ∧ h0 = h) := by
  refine Met.of (a0 := a0) (Ls := #[.val (.ref a1), .val (.int (46 : Int32)), .val (.int (0 : Int32)), .val (.int (3 : Int32))]) (fun z => rfl) (plainFor_of_name pn_java_lang_StringUTF16) hEL (fun m => by first | (simp [entryFrame, mkF, argsToLocals, Value.category]; done) | rfl) ?_
  intro p e s m below meth c B hSf
  obtain ⟨SC, hzc, SA, SH, SL, SF, rf⟩ := id PX
  refine gs (mkF m 1 _ [(.int (0 : Int32))]) (fun T A t k => XS.iloadN A B.x rfl (B.d d27_0) rfl k) ?_
  refine gs (mkF m 2 _ [(.int (3 : Int32)), (.int (0 : Int32))]) (fun T A t k => XS.iloadN A B.x rfl (B.d d27_1) rfl k) ?_
  refine gs (mkF m 3 _ [(.ref a1), (.int (3 : Int32)), (.int (0 : Int32))]) (fun T A t k => XS.aloadN A B.x rfl (B.d d27_2) rfl rfl k) ?_
  refine g_metN (c_static B (hw _ (List.mem_of_getElem? (i := 118) rfl)) (hw _ (List.mem_of_getElem? (i := 119) rfl)) (hw _ (List.mem_of_getElem? (i := 76) rfl)) (hw _ (List.mem_of_getElem? (i := 120) rfl)) (by decide) rfl (lenOf pd_28II5bB29V rfl) rfl (Nat.le_of_eq rfl) d27_3 rfl (argsL := [(.int (0 : Int32)), (.int (3 : Int32)), (.ref a1)]) (rest := []) (W := 0) (q := 6)) (n_cu_6 l Z a0 hw hEL a1 zc rv kb c0 c1 c2 h0 n0 PA PX PO) (hw _ (List.mem_of_getElem? (i := 120) rfl)) (hw _ (List.mem_of_getElem? (i := 76) rfl)) (by decide) (by decide) (by decide) (by decide) ?_
  intro v21 h21 hz21 hQ21
  obtain ⟨rfl, rfl⟩ := hQ21
  refine gs (mkF m 7 _ [(.ref a1)]) (fun T A t k => XS.aloadN A B.x rfl (B.d d27_6) rfl rfl k) ?_
  refine gs (mkF m 8 _ [(.int (46 : Int32)), (.ref a1)]) (fun T A t k => XS.iloadN A B.x rfl (B.d d27_7) rfl k) ?_
  refine gs (mkF m 9 _ [(.int (0 : Int32)), (.int (46 : Int32)), (.ref a1)]) (fun T A t k => XS.iloadN A B.x rfl (B.d d27_8) rfl k) ?_
  refine gs (mkF m 10 _ [(.int (3 : Int32)), (.int (0 : Int32)), (.int (46 : Int32)), (.ref a1)]) (fun T A t k => XS.iloadN A B.x rfl (B.d d27_9) rfl k) ?_
  refine g_metN (c_static B (hw _ (List.mem_of_getElem? (i := 132) rfl)) (hw _ (List.mem_of_getElem? (i := 133) rfl)) (hw _ (List.mem_of_getElem? (i := 76) rfl)) (hw _ (List.mem_of_getElem? (i := 134) rfl)) (by decide) rfl (lenOf pd_285bBIII29I rfl) rfl (Nat.le_of_eq rfl) d27_10 rfl (argsL := [(.ref a1), (.int (46 : Int32)), (.int (0 : Int32)), (.int (3 : Int32))]) (rest := []) (W := 0) (q := 13)) (n_u_indexOfCharUnsafe_46_3 l Z a0 hw hEL a1 zc rv kb c0 c1 c2 h0 n0 PA hr0 hr1 hr2 PX PO) (hw _ (List.mem_of_getElem? (i := 134) rfl)) (hw _ (List.mem_of_getElem? (i := 76) rfl)) (by decide) (by decide) (by decide) (by decide) ?_
  intro v22 h22 hz22 hQ22
  obtain ⟨rfl, rfl⟩ := hQ22
  exact g_retI B d27_13 (by decide) (by decide) ⟨rfl, rfl⟩
set_option maxRecDepth 65536 in
set_option maxHeartbeats 40000000 in
theorem n_u_indexOf_46_3 (l : Launch) (Z : State) (a0 : Array Value) (hw : ∀ d ∈ tables_1, d.before a0 Z = true) (hEL : EW Z a0 []) (a1 : Addr) (zc : Int32) (rv : Value) (kb : ClassId) (c0 c1 c2 : Int32) (h0 : Heap) (n0 : Nat) (PA : Arv Z h0 a1 kb .byte (6 : Int32) [(.int (StrChars.lo8 c0)), (.int (StrChars.hi8 c0)), (.int (StrChars.lo8 c1)), (.int (StrChars.hi8 c1)), (.int (StrChars.lo8 c2)), (.int (StrChars.hi8 c2))] (.int (0 : Int32))) (hr0 : rng c0) (hr1 : rng c1) (hr2 : rng c2) (PX : Sts Z zc rv) (PO : Old Z n0 h0) :
    Met false Z [] l (⟨"java/lang/StringUTF16", "indexOf", "([BIII)I"⟩ : MethodName) jdk_52_method_40_code 4 (some .int) ({ frames := 4, cells := 0, slots := 0, locals := 58 } : Room) #[(.ref a1), (.int (46 : Int32)), (.int (0 : Int32)), (.int (3 : Int32))] h0 [] n0 (fun v h => v = some (.int (if c0 = (46 : Int32) then (0 : Int32) else (if c1 = (46 : Int32) then (1 : Int32) else (if c2 = (46 : Int32) then (2 : Int32) else (-1 : Int32))))) ∧ h0 = h) := by
  refine Met.of (a0 := a0) (Ls := #[.val (.ref a1), .val (.int (46 : Int32)), .val (.int (0 : Int32)), .val (.int (3 : Int32))]) (fun z => rfl) (plainFor_of_name pn_java_lang_StringUTF16) hEL (fun m => by first | (simp [entryFrame, mkF, argsToLocals, Value.category]; done) | rfl) ?_
  intro p e s m below meth c B hSf
  obtain ⟨SC, hzc, SA, SH, SL, SF, rf⟩ := id PX
  refine gs (mkF m 1 _ [(.int (0 : Int32))]) (fun T A t k => XS.iloadN A B.x rfl (B.d d26_0) rfl k) ?_
  refine gs (mkF m 2 _ [(.int (0 : Int32)), (.int (0 : Int32))]) (fun T A t k => XS.iconst A B.x rfl (B.d d26_1) k) ?_
  refine g_metN (c_static B (hw _ (List.mem_of_getElem? (i := 112) rfl)) (hw _ (List.mem_of_getElem? (i := 65) rfl)) (hw _ (List.mem_of_getElem? (i := 66) rfl)) (hw _ (List.mem_of_getElem? (i := 67) rfl)) (by decide) rfl (lenOf pd_28II29I rfl) rfl (Nat.le_of_eq rfl) d26_2 rfl (argsL := [(.int (0 : Int32)), (.int (0 : Int32))]) (rest := []) (W := 0) (q := 5)) (n_max_0_0 l Z a0 hw hEL  h0 n0) (hw _ (List.mem_of_getElem? (i := 67) rfl)) (hw _ (List.mem_of_getElem? (i := 66) rfl)) (by decide) (by decide) (by decide) (by decide) ?_
  intro v21 h21 hz21 hQ21
  obtain ⟨rfl, rfl⟩ := hQ21
  refine gs (mkF m 6 #[.val (.ref a1), .val (.int (46 : Int32)), .val (.int (0 : Int32)), .val (.int (3 : Int32))] []) (fun T A t k => XS.istoreN A B.x rfl (B.d d26_5) rfl (l' := #[.val (.ref a1), .val (.int (46 : Int32)), .val (.int (0 : Int32)), .val (.int (3 : Int32))]) rfl k) ?_
  refine gs (mkF m 7 _ [(.int (3 : Int32))]) (fun T A t k => XS.iloadN A B.x rfl (B.d d26_6) rfl k) ?_
  refine gs (mkF m 8 _ [(.ref a1), (.int (3 : Int32))]) (fun T A t k => XS.aloadN A B.x rfl (B.d d26_7) rfl rfl k) ?_
  refine g_len B PA d26_8 (q := 9) rfl ?_
  refine gs (mkF m 10 _ [(.int (1 : Int32)), (.int (6 : Int32)), (.int (3 : Int32))]) (fun T A t k => XS.iconst A B.x rfl (B.d d26_9) k) ?_
  refine gs (mkF m 11 _ [(.int (3 : Int32)), (.int (3 : Int32))]) (fun T A t k => XS.ishr A B.x rfl (B.d d26_10) rfl k) ?_
  refine g_metN (c_static B (hw _ (List.mem_of_getElem? (i := 113) rfl)) (hw _ (List.mem_of_getElem? (i := 69) rfl)) (hw _ (List.mem_of_getElem? (i := 66) rfl)) (hw _ (List.mem_of_getElem? (i := 70) rfl)) (by decide) rfl (lenOf pd_28II29I rfl) rfl (Nat.le_of_eq rfl) d26_11 rfl (argsL := [(.int (3 : Int32)), (.int (3 : Int32))]) (rest := []) (W := 0) (q := 14)) (n_min_3_3 l Z a0 hw hEL  h0 n0) (hw _ (List.mem_of_getElem? (i := 70) rfl)) (hw _ (List.mem_of_getElem? (i := 66) rfl)) (by decide) (by decide) (by decide) (by decide) ?_
  intro v22 h22 hz22 hQ22
  obtain ⟨rfl, rfl⟩ := hQ22
  refine gs (mkF m 15 #[.val (.ref a1), .val (.int (46 : Int32)), .val (.int (0 : Int32)), .val (.int (3 : Int32))] []) (fun T A t k => XS.istoreN A B.x rfl (B.d d26_14) rfl (l' := #[.val (.ref a1), .val (.int (46 : Int32)), .val (.int (0 : Int32)), .val (.int (3 : Int32))]) rfl k) ?_
  refine gs (mkF m 16 _ [(.int (0 : Int32))]) (fun T A t k => XS.iloadN A B.x rfl (B.d d26_15) rfl k) ?_
  refine gs (mkF m 17 _ [(.int (3 : Int32)), (.int (0 : Int32))]) (fun T A t k => XS.iloadN A B.x rfl (B.d d26_16) rfl k) ?_
  refine gs (mkF m 22 _ []) (fun T A t k => XS.icmpYes A B.x rfl (pc0 := 17) (pc' := 22) rfl (B.d d26_17) rfl (tlt (by decide : (0 : Int32) < (3 : Int32))).1 (by decide) (by decide) k) ?_
  refine gs (mkF m 23 _ [(.int (46 : Int32))]) (fun T A t k => XS.iloadN A B.x rfl (B.d d26_22) rfl k) ?_
  refine g_ldcI B (hw _ (List.mem_of_getElem? (i := 114) rfl)) d26_23 (q := 25) rfl ?_
  refine gs (mkF m 28 _ []) (fun T A t k => XS.icmpNo A B.x rfl (B.d d26_25) rfl (tlt (by decide : (46 : Int32) < (65536 : Int32))).2.1 k) ?_
  refine gs (mkF m 29 _ [(.ref a1)]) (fun T A t k => XS.aloadN A B.x rfl (B.d d26_28) rfl rfl k) ?_
  refine gs (mkF m 30 _ [(.int (46 : Int32)), (.ref a1)]) (fun T A t k => XS.iloadN A B.x rfl (B.d d26_29) rfl k) ?_
  refine gs (mkF m 31 _ [(.int (0 : Int32)), (.int (46 : Int32)), (.ref a1)]) (fun T A t k => XS.iloadN A B.x rfl (B.d d26_30) rfl k) ?_
  refine gs (mkF m 32 _ [(.int (3 : Int32)), (.int (0 : Int32)), (.int (46 : Int32)), (.ref a1)]) (fun T A t k => XS.iloadN A B.x rfl (B.d d26_31) rfl k) ?_
  refine g_metN (c_static B (hw _ (List.mem_of_getElem? (i := 115) rfl)) (hw _ (List.mem_of_getElem? (i := 116) rfl)) (hw _ (List.mem_of_getElem? (i := 76) rfl)) (hw _ (List.mem_of_getElem? (i := 117) rfl)) (by decide) rfl (lenOf pd_285bBIII29I rfl) rfl (Nat.le_of_eq rfl) d26_32 rfl (argsL := [(.ref a1), (.int (46 : Int32)), (.int (0 : Int32)), (.int (3 : Int32))]) (rest := []) (W := 0) (q := 35)) (n_u_indexOfChar_46_3 l Z a0 hw hEL a1 zc rv kb c0 c1 c2 h0 n0 PA hr0 hr1 hr2 PX PO) (hw _ (List.mem_of_getElem? (i := 117) rfl)) (hw _ (List.mem_of_getElem? (i := 76) rfl)) (by decide) (by decide) (by decide) (by decide) ?_
  intro v23 h23 hz23 hQ23
  obtain ⟨rfl, rfl⟩ := hQ23
  exact g_retI B d26_35 (by decide) (by decide) ⟨rfl, rfl⟩
set_option maxRecDepth 65536 in
set_option maxHeartbeats 40000000 in
theorem n_idx2_46_3 (l : Launch) (Z : State) (a0 : Array Value) (hw : ∀ d ∈ tables_1, d.before a0 Z = true) (hEL : EW Z a0 []) (a1 : Addr) (zc : Int32) (rv : Value) (t : Addr) (c0 c1 c2 : Int32) (h0 : Heap) (n0 : Nat) (PS : Str Z h0 a1 t [c0, c1, c2]) (PX : Sts Z zc rv) (PO : Old Z n0 h0) :
    Met false Z [] l (⟨"java/lang/String", "indexOf", "(II)I"⟩ : MethodName) jdk_42_method_80_code 3 (some .int) ({ frames := 5, cells := 0, slots := 0, locals := 73 } : Room) #[(.ref a1), (.int (46 : Int32)), (.int (0 : Int32))] h0 [] n0 (fun v h => v = some (.int (if c0 = (46 : Int32) then (0 : Int32) else (if c1 = (46 : Int32) then (1 : Int32) else (if c2 = (46 : Int32) then (2 : Int32) else (-1 : Int32))))) ∧ h0 = h) := by
  refine Met.of (a0 := a0) (Ls := #[.val (.ref a1), .val (.int (46 : Int32)), .val (.int (0 : Int32))]) (fun z => rfl) (plainFor_of_name pn_java_lang_String) hEL (fun m => by first | (simp [entryFrame, mkF, argsToLocals, Value.category]; done) | rfl) ?_
  intro p e s m below meth c B hSf
  obtain ⟨SC, hzc, SA, SH, SL, SF, rf⟩ := id PX
  obtain ⟨PE, PV, cd, N2, vs, kb, PC, PA0, hcod, hb, -⟩ := PS
  have hr0 : rng c0 := hb _ (by simp)
  have hr1 : rng c1 := hb _ (by simp)
  have hr2 : rng c2 := hb _ (by simp)
  rcases hcod with ⟨rfl, rfl, rfl, hlat⟩ | ⟨rfl, rfl, rfl, hwd⟩
  · have PA : Arv Z h0 t kb .byte (3 : Int32) [(.int (StrChars.lo8 c0)), (.int (StrChars.lo8 c1)), (.int (StrChars.lo8 c2))] (.int (0 : Int32)) := PA0
    have hl0 : ¬ (255 : Int32) < c0 := hlat _ (by simp)
    have hl1 : ¬ (255 : Int32) < c1 := hlat _ (by simp)
    have hl2 : ¬ (255 : Int32) < c2 := hlat _ (by simp)
    refine gs (mkF m 1 _ [(.ref a1)]) (fun T A t k => XS.aloadN A B.x rfl (B.d d7_0) rfl rfl k) ?_
    refine g_metN (c_virt B PE (hw _ (List.mem_of_getElem? (i := 41) rfl)) (hw _ (List.mem_of_getElem? (i := 42) rfl)) (hw _ (List.mem_of_getElem? (i := 44) rfl)) (hw _ (List.mem_of_getElem? (i := 43) rfl)) (nfs (z := (⟨"java/lang/String", "isLatin1", "()Z"⟩ : MethodName)) (hw _ (List.mem_of_getElem? (i := 44) rfl))) (by decide) rfl (lenOf pd_2829Z rfl) rfl (Nat.le_of_eq rfl) d7_1 rfl (argsL := []) (rest := []) (W := 0) (q := 4)) (n_isLatin1_0 l Z a0 hw hEL a1 zc rv h0 n0 PE PC PX PO) (hw _ (List.mem_of_getElem? (i := 45) rfl)) (hw _ (List.mem_of_getElem? (i := 7) rfl)) (by decide) (by decide) (by decide) (by decide) ?_
    intro v21 h21 hz21 hQ21
    obtain ⟨rfl, rfl⟩ := hQ21
    refine gs (mkF m 7 _ []) (fun T A t k => XS.ifNo A B.x rfl (B.d d7_4) rfl ((if0 _ _).trans (feq (by decide : ¬ ((1 : Int32) = (0 : Int32)))).1) k) ?_
    refine gs (mkF m 8 _ [(.ref a1)]) (fun T A t k => XS.aloadN A B.x rfl (B.d d7_7) rfl rfl k) ?_
    refine g_getF B (hw _ (List.mem_of_getElem? (i := 25) rfl)) Via.refl PV d7_8 (q := 11) rfl ?_
    refine gs (mkF m 12 _ [(.int (46 : Int32)), (.ref t)]) (fun T A t k => XS.iloadN A B.x rfl (B.d d7_11) rfl k) ?_
    refine gs (mkF m 13 _ [(.int (0 : Int32)), (.int (46 : Int32)), (.ref t)]) (fun T A t k => XS.iloadN A B.x rfl (B.d d7_12) rfl k) ?_
    refine gs (mkF m 14 _ [(.ref a1), (.int (0 : Int32)), (.int (46 : Int32)), (.ref t)]) (fun T A t k => XS.aloadN A B.x rfl (B.d d7_13) rfl rfl k) ?_
    refine g_metN (c_virt B PE (hw _ (List.mem_of_getElem? (i := 47) rfl)) (hw _ (List.mem_of_getElem? (i := 48) rfl)) (hw _ (List.mem_of_getElem? (i := 50) rfl)) (hw _ (List.mem_of_getElem? (i := 49) rfl)) (nfs (z := (⟨"java/lang/String", "length", "()I"⟩ : MethodName)) (hw _ (List.mem_of_getElem? (i := 50) rfl))) (by decide) rfl (lenOf pd_2829I rfl) rfl (Nat.le_of_eq rfl) d7_14 rfl (argsL := []) (rest := [(.int (0 : Int32)), (.int (46 : Int32)), (.ref t)]) (W := 3) (q := 17)) (n_length_3_0 l Z a0 hw hEL a1 zc rv t kb c0 c1 c2 h0 n0 PE PC PV PA PX PO) (hw _ (List.mem_of_getElem? (i := 51) rfl)) (hw _ (List.mem_of_getElem? (i := 7) rfl)) (by decide) (by decide) (by decide) (by decide) ?_
    intro v22 h22 hz22 hQ22
    obtain ⟨rfl, rfl⟩ := hQ22
    refine g_metN (c_static B (hw _ (List.mem_of_getElem? (i := 57) rfl)) (hw _ (List.mem_of_getElem? (i := 58) rfl)) (hw _ (List.mem_of_getElem? (i := 59) rfl)) (hw _ (List.mem_of_getElem? (i := 60) rfl)) (by decide) rfl (lenOf pd_285bBIII29I rfl) rfl (Nat.le_of_eq rfl) d7_17 rfl (argsL := [(.ref t), (.int (46 : Int32)), (.int (0 : Int32)), (.int (3 : Int32))]) (rest := []) (W := 0) (q := 20)) (n_l_indexOf_46_3 l Z a0 hw hEL t zc rv kb c0 c1 c2 h0 n0 PA hr0 hr1 hr2 hl0 hl1 hl2 PX PO) (hw _ (List.mem_of_getElem? (i := 60) rfl)) (hw _ (List.mem_of_getElem? (i := 59) rfl)) (by decide) (by decide) (by decide) (by decide) ?_
    intro v23 h23 hz23 hQ23
    obtain ⟨rfl, rfl⟩ := hQ23
    refine gs (mkF m 36 _ [(.int (if c0 = (46 : Int32) then (0 : Int32) else (if c1 = (46 : Int32) then (1 : Int32) else (if c2 = (46 : Int32) then (2 : Int32) else (-1 : Int32)))))]) (fun T A t k => XS.goto A B.x rfl (pc0 := 20) (pc' := 36) rfl (B.d d7_20) (by decide) (by decide) k) ?_
    exact g_retI B d7_36 (by decide) (by decide) ⟨rfl, rfl⟩
  · have PA : Arv Z h0 t kb .byte (6 : Int32) [(.int (StrChars.lo8 c0)), (.int (StrChars.hi8 c0)), (.int (StrChars.lo8 c1)), (.int (StrChars.hi8 c1)), (.int (StrChars.lo8 c2)), (.int (StrChars.hi8 c2))] (.int (0 : Int32)) := PA0
    refine gs (mkF m 1 _ [(.ref a1)]) (fun T A t k => XS.aloadN A B.x rfl (B.d d7_0) rfl rfl k) ?_
    refine g_metN (c_virt B PE (hw _ (List.mem_of_getElem? (i := 41) rfl)) (hw _ (List.mem_of_getElem? (i := 42) rfl)) (hw _ (List.mem_of_getElem? (i := 44) rfl)) (hw _ (List.mem_of_getElem? (i := 43) rfl)) (nfs (z := (⟨"java/lang/String", "isLatin1", "()Z"⟩ : MethodName)) (hw _ (List.mem_of_getElem? (i := 44) rfl))) (by decide) rfl (lenOf pd_2829Z rfl) rfl (Nat.le_of_eq rfl) d7_1 rfl (argsL := []) (rest := []) (W := 0) (q := 4)) (n_isLatin1_1 l Z a0 hw hEL a1 zc rv h0 n0 PE PC PX PO) (hw _ (List.mem_of_getElem? (i := 45) rfl)) (hw _ (List.mem_of_getElem? (i := 7) rfl)) (by decide) (by decide) (by decide) (by decide) ?_
    intro v24 h24 hz24 hQ24
    obtain ⟨rfl, rfl⟩ := hQ24
    refine gs (mkF m 23 _ []) (fun T A t k => XS.ifYes A B.x rfl (pc0 := 4) (pc' := 23) rfl (B.d d7_4) rfl ((if0 _ _).trans (teq (by decide : (0 : Int32) = (0 : Int32))).1) (by decide) (by decide) k) ?_
    refine gs (mkF m 24 _ [(.ref a1)]) (fun T A t k => XS.aloadN A B.x rfl (B.d d7_23) rfl rfl k) ?_
    refine g_getF B (hw _ (List.mem_of_getElem? (i := 25) rfl)) Via.refl PV d7_24 (q := 27) rfl ?_
    refine gs (mkF m 28 _ [(.int (46 : Int32)), (.ref t)]) (fun T A t k => XS.iloadN A B.x rfl (B.d d7_27) rfl k) ?_
    refine gs (mkF m 29 _ [(.int (0 : Int32)), (.int (46 : Int32)), (.ref t)]) (fun T A t k => XS.iloadN A B.x rfl (B.d d7_28) rfl k) ?_
    refine gs (mkF m 30 _ [(.ref a1), (.int (0 : Int32)), (.int (46 : Int32)), (.ref t)]) (fun T A t k => XS.aloadN A B.x rfl (B.d d7_29) rfl rfl k) ?_
    refine g_metN (c_virt B PE (hw _ (List.mem_of_getElem? (i := 47) rfl)) (hw _ (List.mem_of_getElem? (i := 48) rfl)) (hw _ (List.mem_of_getElem? (i := 50) rfl)) (hw _ (List.mem_of_getElem? (i := 49) rfl)) (nfs (z := (⟨"java/lang/String", "length", "()I"⟩ : MethodName)) (hw _ (List.mem_of_getElem? (i := 50) rfl))) (by decide) rfl (lenOf pd_2829I rfl) rfl (Nat.le_of_eq rfl) d7_30 rfl (argsL := []) (rest := [(.int (0 : Int32)), (.int (46 : Int32)), (.ref t)]) (W := 3) (q := 33)) (n_length_6_1 l Z a0 hw hEL a1 zc rv t kb c0 c1 c2 h0 n0 PE PC PV PA PX PO) (hw _ (List.mem_of_getElem? (i := 51) rfl)) (hw _ (List.mem_of_getElem? (i := 7) rfl)) (by decide) (by decide) (by decide) (by decide) ?_
    intro v25 h25 hz25 hQ25
    obtain ⟨rfl, rfl⟩ := hQ25
    refine g_metN (c_static B (hw _ (List.mem_of_getElem? (i := 109) rfl)) (hw _ (List.mem_of_getElem? (i := 110) rfl)) (hw _ (List.mem_of_getElem? (i := 76) rfl)) (hw _ (List.mem_of_getElem? (i := 111) rfl)) (by decide) rfl (lenOf pd_285bBIII29I rfl) rfl (Nat.le_of_eq rfl) d7_33 rfl (argsL := [(.ref t), (.int (46 : Int32)), (.int (0 : Int32)), (.int (3 : Int32))]) (rest := []) (W := 0) (q := 36)) (n_u_indexOf_46_3 l Z a0 hw hEL t zc rv kb c0 c1 c2 h0 n0 PA hr0 hr1 hr2 PX PO) (hw _ (List.mem_of_getElem? (i := 111) rfl)) (hw _ (List.mem_of_getElem? (i := 76) rfl)) (by decide) (by decide) (by decide) (by decide) ?_
    intro v26 h26 hz26 hQ26
    obtain ⟨rfl, rfl⟩ := hQ26
    exact g_retI B d7_36 (by decide) (by decide) ⟨rfl, rfl⟩
set_option maxRecDepth 65536 in
set_option maxHeartbeats 40000000 in
theorem n_idx1_46_3 (l : Launch) (Z : State) (a0 : Array Value) (hw : ∀ d ∈ tables_1, d.before a0 Z = true) (hEL : EW Z a0 []) (a1 : Addr) (zc : Int32) (rv : Value) (t : Addr) (c0 c1 c2 : Int32) (h0 : Heap) (n0 : Nat) (PS : Str Z h0 a1 t [c0, c1, c2]) (PX : Sts Z zc rv) (PO : Old Z n0 h0) :
    Met false Z [] l (⟨"java/lang/String", "indexOf", "(I)I"⟩ : MethodName) jdk_42_method_79_code 2 (some .int) ({ frames := 6, cells := 0, slots := 0, locals := 87 } : Room) #[(.ref a1), (.int (46 : Int32))] h0 [] n0 (fun v h => v = some (.int (if c0 = (46 : Int32) then (0 : Int32) else (if c1 = (46 : Int32) then (1 : Int32) else (if c2 = (46 : Int32) then (2 : Int32) else (-1 : Int32))))) ∧ h0 = h) := by
  refine Met.of (a0 := a0) (Ls := #[.val (.ref a1), .val (.int (46 : Int32))]) (fun z => rfl) (plainFor_of_name pn_java_lang_String) hEL (fun m => by first | (simp [entryFrame, mkF, argsToLocals, Value.category]; done) | rfl) ?_
  intro p e s m below meth c B hSf
  obtain ⟨SC, hzc, SA, SH, SL, SF, rf⟩ := id PX
  refine gs (mkF m 1 _ [(.ref a1)]) (fun T A t k => XS.aloadN A B.x rfl (B.d d6_0) rfl rfl k) ?_
  refine gs (mkF m 2 _ [(.int (46 : Int32)), (.ref a1)]) (fun T A t k => XS.iloadN A B.x rfl (B.d d6_1) rfl k) ?_
  refine gs (mkF m 3 _ [(.int (0 : Int32)), (.int (46 : Int32)), (.ref a1)]) (fun T A t k => XS.iconst A B.x rfl (B.d d6_2) k) ?_
  refine g_metN (c_virt B PS.exa (hw _ (List.mem_of_getElem? (i := 36) rfl)) (hw _ (List.mem_of_getElem? (i := 37) rfl)) (hw _ (List.mem_of_getElem? (i := 39) rfl)) (hw _ (List.mem_of_getElem? (i := 38) rfl)) (nfs (z := (⟨"java/lang/String", "indexOf", "(II)I"⟩ : MethodName)) (hw _ (List.mem_of_getElem? (i := 39) rfl))) (by decide) rfl (lenOf pd_28II29I rfl) rfl (Nat.le_of_eq rfl) d6_3 rfl (argsL := [(.int (46 : Int32)), (.int (0 : Int32))]) (rest := []) (W := 0) (q := 6)) (n_idx2_46_3 l Z a0 hw hEL a1 zc rv t c0 c1 c2 h0 n0 PS PX PO) (hw _ (List.mem_of_getElem? (i := 40) rfl)) (hw _ (List.mem_of_getElem? (i := 7) rfl)) (by decide) (by decide) (by decide) (by decide) ?_
  intro v21 h21 hz21 hQ21
  obtain ⟨rfl, rfl⟩ := hQ21
  exact g_retI B d6_6 (by decide) (by decide) ⟨rfl, rfl⟩
set_option maxRecDepth 65536 in
set_option maxHeartbeats 40000000 in
theorem n_l_indexOfChar_64_3 (l : Launch) (Z : State) (a0 : Array Value) (hw : ∀ d ∈ tables_1, d.before a0 Z = true) (hEL : EW Z a0 []) (a1 : Addr) (zc : Int32) (rv : Value) (kb : ClassId) (c0 c1 c2 : Int32) (h0 : Heap) (n0 : Nat) (PA : Arv Z h0 a1 kb .byte (3 : Int32) [(.int (StrChars.lo8 c0)), (.int (StrChars.lo8 c1)), (.int (StrChars.lo8 c2))] (.int (0 : Int32))) (hr0 : rng c0) (hr1 : rng c1) (hr2 : rng c2) (hl0 : ¬ (255 : Int32) < c0) (hl1 : ¬ (255 : Int32) < c1) (hl2 : ¬ (255 : Int32) < c2) (PX : Sts Z zc rv) (PO : Old Z n0 h0) :
    Met false Z [] l (⟨"java/lang/StringLatin1", "indexOfChar", "([BIII)I"⟩ : MethodName) jdk_43_method_23_code 6 (some .int) ({ frames := 0, cells := 0, slots := 0, locals := 0 } : Room) #[(.ref a1), (.int (64 : Int32)), (.int (0 : Int32)), (.int (3 : Int32))] h0 [] n0 (fun v h => v = some (.int (if c0 = (64 : Int32) then (0 : Int32) else (if c1 = (64 : Int32) then (1 : Int32) else (if c2 = (64 : Int32) then (2 : Int32) else (-1 : Int32))))) ∧ h0 = h) := by
  refine Met.of (a0 := a0) (Ls := #[.val (.ref a1), .val (.int (64 : Int32)), .val (.int (0 : Int32)), .val (.int (3 : Int32)), .unset, .unset]) (fun z => rfl) (plainFor_of_name pn_java_lang_StringLatin1) hEL (fun m => by first | (simp [entryFrame, mkF, argsToLocals, Value.category]; done) | rfl) ?_
  intro p e s m below meth c B hSf
  obtain ⟨SC, hzc, SA, SH, SL, SF, rf⟩ := id PX
  refine gs (mkF m 1 _ [(.int (64 : Int32))]) (fun T A t k => XS.iloadN A B.x rfl (B.d d20_0) rfl k) ?_
  refine gs (mkF m 2 _ [(.int (64 : Int32))]) (fun T A t k => XS.i2b A B.x rfl (B.d d20_1) rfl k) ?_
  refine gs (mkF m 4 #[.val (.ref a1), .val (.int (64 : Int32)), .val (.int (0 : Int32)), .val (.int (3 : Int32)), .val (.int (64 : Int32)), .unset] []) (fun T A t k => XS.istore A B.x rfl (B.d d20_2) rfl (l' := #[.val (.ref a1), .val (.int (64 : Int32)), .val (.int (0 : Int32)), .val (.int (3 : Int32)), .val (.int (64 : Int32)), .unset]) rfl k) ?_
  refine gs (mkF m 5 _ [(.int (0 : Int32))]) (fun T A t k => XS.iloadN A B.x rfl (B.d d20_4) rfl k) ?_
  refine gs (mkF m 7 #[.val (.ref a1), .val (.int (64 : Int32)), .val (.int (0 : Int32)), .val (.int (3 : Int32)), .val (.int (64 : Int32)), .val (.int (0 : Int32))] []) (fun T A t k => XS.istore A B.x rfl (B.d d20_5) rfl (l' := #[.val (.ref a1), .val (.int (64 : Int32)), .val (.int (0 : Int32)), .val (.int (3 : Int32)), .val (.int (64 : Int32)), .val (.int (0 : Int32))]) rfl k) ?_
  refine gs (mkF m 9 _ [(.int (0 : Int32))]) (fun T A t k => XS.iload A B.x rfl (B.d d20_7) rfl k) ?_
  refine gs (mkF m 10 _ [(.int (3 : Int32)), (.int (0 : Int32))]) (fun T A t k => XS.iloadN A B.x rfl (B.d d20_9) rfl k) ?_
  refine gs (mkF m 13 _ []) (fun T A t k => XS.icmpNo A B.x rfl (B.d d20_10) rfl (tlt (by decide : (0 : Int32) < (3 : Int32))).2.1 k) ?_
  refine gs (mkF m 14 _ [(.ref a1)]) (fun T A t k => XS.aloadN A B.x rfl (B.d d20_13) rfl rfl k) ?_
  refine gs (mkF m 16 _ [(.int (0 : Int32)), (.ref a1)]) (fun T A t k => XS.iload A B.x rfl (B.d d20_14) rfl k) ?_
  refine g_ldB B PA ⟨by decide, by decide⟩ (v := (.int (StrChars.lo8 c0))) rfl d20_16 (q := 17) rfl ?_
  refine gs (mkF m 19 _ [(.int (64 : Int32)), (.int (StrChars.lo8 c0))]) (fun T A t k => XS.iload A B.x rfl (B.d d20_17) rfl k) ?_
  by_cases hE0 : c0 = (64 : Int32)
  · refine gs (mkF m 22 _ []) (fun T A t k => XS.icmpNo A B.x rfl (B.d d20_19) rfl (teq ((by rw [hE0]; exact lo_64) : (StrChars.lo8 c0) = (64 : Int32))).2 k) ?_
    refine gs (mkF m 24 _ [(.int (0 : Int32))]) (fun T A t k => XS.iload A B.x rfl (B.d d20_22) rfl k) ?_
    exact g_retI B d20_24 (by decide) (by decide) ⟨by rw [if_pos hE0], rfl⟩
  · refine gs (mkF m 25 _ []) (fun T A t k => XS.icmpYes A B.x rfl (pc0 := 19) (pc' := 25) rfl (B.d d20_19) rfl (feq ((fun e => hE0 (lo_eq64 hr0.1 hl0 e)) : ¬ ((StrChars.lo8 c0) = (64 : Int32)))).2 (by decide) (by decide) k) ?_
    refine gs (mkF m 28 #[.val (.ref a1), .val (.int (64 : Int32)), .val (.int (0 : Int32)), .val (.int (3 : Int32)), .val (.int (64 : Int32)), .val (.int (1 : Int32))] []) (fun T A t k => XS.iinc A B.x rfl (B.d d20_25) rfl (l' := #[.val (.ref a1), .val (.int (64 : Int32)), .val (.int (0 : Int32)), .val (.int (3 : Int32)), .val (.int (64 : Int32)), .val (.int (1 : Int32))]) rfl k) ?_
    refine gs (mkF m 7 _ []) (fun T A t k => XS.goto A B.x rfl (pc0 := 28) (pc' := 7) rfl (B.d d20_28) (by decide) (by decide) k) ?_
    refine gs (mkF m 9 _ [(.int (1 : Int32))]) (fun T A t k => XS.iload A B.x rfl (B.d d20_7) rfl k) ?_
    refine gs (mkF m 10 _ [(.int (3 : Int32)), (.int (1 : Int32))]) (fun T A t k => XS.iloadN A B.x rfl (B.d d20_9) rfl k) ?_
    refine gs (mkF m 13 _ []) (fun T A t k => XS.icmpNo A B.x rfl (B.d d20_10) rfl (tlt (by decide : (1 : Int32) < (3 : Int32))).2.1 k) ?_
    refine gs (mkF m 14 _ [(.ref a1)]) (fun T A t k => XS.aloadN A B.x rfl (B.d d20_13) rfl rfl k) ?_
    refine gs (mkF m 16 _ [(.int (1 : Int32)), (.ref a1)]) (fun T A t k => XS.iload A B.x rfl (B.d d20_14) rfl k) ?_
    refine g_ldB B PA ⟨by decide, by decide⟩ (v := (.int (StrChars.lo8 c1))) rfl d20_16 (q := 17) rfl ?_
    refine gs (mkF m 19 _ [(.int (64 : Int32)), (.int (StrChars.lo8 c1))]) (fun T A t k => XS.iload A B.x rfl (B.d d20_17) rfl k) ?_
    by_cases hE1 : c1 = (64 : Int32)
    · refine gs (mkF m 22 _ []) (fun T A t k => XS.icmpNo A B.x rfl (B.d d20_19) rfl (teq ((by rw [hE1]; exact lo_64) : (StrChars.lo8 c1) = (64 : Int32))).2 k) ?_
      refine gs (mkF m 24 _ [(.int (1 : Int32))]) (fun T A t k => XS.iload A B.x rfl (B.d d20_22) rfl k) ?_
      exact g_retI B d20_24 (by decide) (by decide) ⟨by rw [if_neg hE0, if_pos hE1], rfl⟩
    · refine gs (mkF m 25 _ []) (fun T A t k => XS.icmpYes A B.x rfl (pc0 := 19) (pc' := 25) rfl (B.d d20_19) rfl (feq ((fun e => hE1 (lo_eq64 hr1.1 hl1 e)) : ¬ ((StrChars.lo8 c1) = (64 : Int32)))).2 (by decide) (by decide) k) ?_
      refine gs (mkF m 28 #[.val (.ref a1), .val (.int (64 : Int32)), .val (.int (0 : Int32)), .val (.int (3 : Int32)), .val (.int (64 : Int32)), .val (.int (2 : Int32))] []) (fun T A t k => XS.iinc A B.x rfl (B.d d20_25) rfl (l' := #[.val (.ref a1), .val (.int (64 : Int32)), .val (.int (0 : Int32)), .val (.int (3 : Int32)), .val (.int (64 : Int32)), .val (.int (2 : Int32))]) rfl k) ?_
      refine gs (mkF m 7 _ []) (fun T A t k => XS.goto A B.x rfl (pc0 := 28) (pc' := 7) rfl (B.d d20_28) (by decide) (by decide) k) ?_
      refine gs (mkF m 9 _ [(.int (2 : Int32))]) (fun T A t k => XS.iload A B.x rfl (B.d d20_7) rfl k) ?_
      refine gs (mkF m 10 _ [(.int (3 : Int32)), (.int (2 : Int32))]) (fun T A t k => XS.iloadN A B.x rfl (B.d d20_9) rfl k) ?_
      refine gs (mkF m 13 _ []) (fun T A t k => XS.icmpNo A B.x rfl (B.d d20_10) rfl (tlt (by decide : (2 : Int32) < (3 : Int32))).2.1 k) ?_
      refine gs (mkF m 14 _ [(.ref a1)]) (fun T A t k => XS.aloadN A B.x rfl (B.d d20_13) rfl rfl k) ?_
      refine gs (mkF m 16 _ [(.int (2 : Int32)), (.ref a1)]) (fun T A t k => XS.iload A B.x rfl (B.d d20_14) rfl k) ?_
      refine g_ldB B PA ⟨by decide, by decide⟩ (v := (.int (StrChars.lo8 c2))) rfl d20_16 (q := 17) rfl ?_
      refine gs (mkF m 19 _ [(.int (64 : Int32)), (.int (StrChars.lo8 c2))]) (fun T A t k => XS.iload A B.x rfl (B.d d20_17) rfl k) ?_
      by_cases hE2 : c2 = (64 : Int32)
      · refine gs (mkF m 22 _ []) (fun T A t k => XS.icmpNo A B.x rfl (B.d d20_19) rfl (teq ((by rw [hE2]; exact lo_64) : (StrChars.lo8 c2) = (64 : Int32))).2 k) ?_
        refine gs (mkF m 24 _ [(.int (2 : Int32))]) (fun T A t k => XS.iload A B.x rfl (B.d d20_22) rfl k) ?_
        exact g_retI B d20_24 (by decide) (by decide) ⟨by rw [if_neg hE0, if_neg hE1, if_pos hE2], rfl⟩
      · refine gs (mkF m 25 _ []) (fun T A t k => XS.icmpYes A B.x rfl (pc0 := 19) (pc' := 25) rfl (B.d d20_19) rfl (feq ((fun e => hE2 (lo_eq64 hr2.1 hl2 e)) : ¬ ((StrChars.lo8 c2) = (64 : Int32)))).2 (by decide) (by decide) k) ?_
        refine gs (mkF m 28 #[.val (.ref a1), .val (.int (64 : Int32)), .val (.int (0 : Int32)), .val (.int (3 : Int32)), .val (.int (64 : Int32)), .val (.int (3 : Int32))] []) (fun T A t k => XS.iinc A B.x rfl (B.d d20_25) rfl (l' := #[.val (.ref a1), .val (.int (64 : Int32)), .val (.int (0 : Int32)), .val (.int (3 : Int32)), .val (.int (64 : Int32)), .val (.int (3 : Int32))]) rfl k) ?_
        refine gs (mkF m 7 _ []) (fun T A t k => XS.goto A B.x rfl (pc0 := 28) (pc' := 7) rfl (B.d d20_28) (by decide) (by decide) k) ?_
        refine gs (mkF m 9 _ [(.int (3 : Int32))]) (fun T A t k => XS.iload A B.x rfl (B.d d20_7) rfl k) ?_
        refine gs (mkF m 10 _ [(.int (3 : Int32)), (.int (3 : Int32))]) (fun T A t k => XS.iloadN A B.x rfl (B.d d20_9) rfl k) ?_
        refine gs (mkF m 31 _ []) (fun T A t k => XS.icmpYes A B.x rfl (pc0 := 10) (pc' := 31) rfl (B.d d20_10) rfl (flt (by decide : ¬ ((3 : Int32) < (3 : Int32)))).2.1 (by decide) (by decide) k) ?_
        refine gs (mkF m 32 _ [(.int (-1 : Int32))]) (fun T A t k => XS.iconst A B.x rfl (B.d d20_31) k) ?_
        exact g_retI B d20_32 (by decide) (by decide) ⟨by rw [if_neg hE0, if_neg hE1, if_neg hE2], rfl⟩
set_option maxRecDepth 65536 in
set_option maxHeartbeats 40000000 in
theorem n_l_indexOf_64_3 (l : Launch) (Z : State) (a0 : Array Value) (hw : ∀ d ∈ tables_1, d.before a0 Z = true) (hEL : EW Z a0 []) (a1 : Addr) (zc : Int32) (rv : Value) (kb : ClassId) (c0 c1 c2 : Int32) (h0 : Heap) (n0 : Nat) (PA : Arv Z h0 a1 kb .byte (3 : Int32) [(.int (StrChars.lo8 c0)), (.int (StrChars.lo8 c1)), (.int (StrChars.lo8 c2))] (.int (0 : Int32))) (hr0 : rng c0) (hr1 : rng c1) (hr2 : rng c2) (hl0 : ¬ (255 : Int32) < c0) (hl1 : ¬ (255 : Int32) < c1) (hl2 : ¬ (255 : Int32) < c2) (PX : Sts Z zc rv) (PO : Old Z n0 h0) :
    Met false Z [] l (⟨"java/lang/StringLatin1", "indexOf", "([BIII)I"⟩ : MethodName) jdk_43_method_22_code 4 (some .int) ({ frames := 1, cells := 0, slots := 0, locals := 17 } : Room) #[(.ref a1), (.int (64 : Int32)), (.int (0 : Int32)), (.int (3 : Int32))] h0 [] n0 (fun v h => v = some (.int (if c0 = (64 : Int32) then (0 : Int32) else (if c1 = (64 : Int32) then (1 : Int32) else (if c2 = (64 : Int32) then (2 : Int32) else (-1 : Int32))))) ∧ h0 = h) := by
  refine Met.of (a0 := a0) (Ls := #[.val (.ref a1), .val (.int (64 : Int32)), .val (.int (0 : Int32)), .val (.int (3 : Int32))]) (fun z => rfl) (plainFor_of_name pn_java_lang_StringLatin1) hEL (fun m => by first | (simp [entryFrame, mkF, argsToLocals, Value.category]; done) | rfl) ?_
  intro p e s m below meth c B hSf
  obtain ⟨SC, hzc, SA, SH, SL, SF, rf⟩ := id PX
  refine gs (mkF m 1 _ [(.int (64 : Int32))]) (fun T A t k => XS.iloadN A B.x rfl (B.d d11_0) rfl k) ?_
  refine g_metN (c_static B (hw _ (List.mem_of_getElem? (i := 61) rfl)) (hw _ (List.mem_of_getElem? (i := 62) rfl)) (hw _ (List.mem_of_getElem? (i := 59) rfl)) (hw _ (List.mem_of_getElem? (i := 63) rfl)) (by decide) rfl (lenOf pd_28I29Z rfl) rfl (Nat.le_of_eq rfl) d11_1 rfl (argsL := [(.int (64 : Int32))]) (rest := []) (W := 0) (q := 4)) (n_ce_64 l Z a0 hw hEL  h0 n0) (hw _ (List.mem_of_getElem? (i := 63) rfl)) (hw _ (List.mem_of_getElem? (i := 59) rfl)) (by decide) (by decide) (by decide) (by decide) ?_
  intro v21 h21 hz21 hQ21
  obtain ⟨rfl, rfl⟩ := hQ21
  refine gs (mkF m 9 _ []) (fun T A t k => XS.ifYes A B.x rfl (pc0 := 4) (pc' := 9) rfl (B.d d11_4) rfl ((if0 _ _).trans (feq (by decide : ¬ ((1 : Int32) = (0 : Int32)))).2) (by decide) (by decide) k) ?_
  refine gs (mkF m 10 _ [(.int (0 : Int32))]) (fun T A t k => XS.iloadN A B.x rfl (B.d d11_9) rfl k) ?_
  refine gs (mkF m 11 _ [(.int (0 : Int32)), (.int (0 : Int32))]) (fun T A t k => XS.iconst A B.x rfl (B.d d11_10) k) ?_
  refine g_metN (c_static B (hw _ (List.mem_of_getElem? (i := 64) rfl)) (hw _ (List.mem_of_getElem? (i := 65) rfl)) (hw _ (List.mem_of_getElem? (i := 66) rfl)) (hw _ (List.mem_of_getElem? (i := 67) rfl)) (by decide) rfl (lenOf pd_28II29I rfl) rfl (Nat.le_of_eq rfl) d11_11 rfl (argsL := [(.int (0 : Int32)), (.int (0 : Int32))]) (rest := []) (W := 0) (q := 14)) (n_max_0_0 l Z a0 hw hEL  h0 n0) (hw _ (List.mem_of_getElem? (i := 67) rfl)) (hw _ (List.mem_of_getElem? (i := 66) rfl)) (by decide) (by decide) (by decide) (by decide) ?_
  intro v22 h22 hz22 hQ22
  obtain ⟨rfl, rfl⟩ := hQ22
  refine gs (mkF m 15 #[.val (.ref a1), .val (.int (64 : Int32)), .val (.int (0 : Int32)), .val (.int (3 : Int32))] []) (fun T A t k => XS.istoreN A B.x rfl (B.d d11_14) rfl (l' := #[.val (.ref a1), .val (.int (64 : Int32)), .val (.int (0 : Int32)), .val (.int (3 : Int32))]) rfl k) ?_
  refine gs (mkF m 16 _ [(.int (3 : Int32))]) (fun T A t k => XS.iloadN A B.x rfl (B.d d11_15) rfl k) ?_
  refine gs (mkF m 17 _ [(.ref a1), (.int (3 : Int32))]) (fun T A t k => XS.aloadN A B.x rfl (B.d d11_16) rfl rfl k) ?_
  refine g_len B PA d11_17 (q := 18) rfl ?_
  refine g_metN (c_static B (hw _ (List.mem_of_getElem? (i := 68) rfl)) (hw _ (List.mem_of_getElem? (i := 69) rfl)) (hw _ (List.mem_of_getElem? (i := 66) rfl)) (hw _ (List.mem_of_getElem? (i := 70) rfl)) (by decide) rfl (lenOf pd_28II29I rfl) rfl (Nat.le_of_eq rfl) d11_18 rfl (argsL := [(.int (3 : Int32)), (.int (3 : Int32))]) (rest := []) (W := 0) (q := 21)) (n_min_3_3 l Z a0 hw hEL  h0 n0) (hw _ (List.mem_of_getElem? (i := 70) rfl)) (hw _ (List.mem_of_getElem? (i := 66) rfl)) (by decide) (by decide) (by decide) (by decide) ?_
  intro v23 h23 hz23 hQ23
  obtain ⟨rfl, rfl⟩ := hQ23
  refine gs (mkF m 22 #[.val (.ref a1), .val (.int (64 : Int32)), .val (.int (0 : Int32)), .val (.int (3 : Int32))] []) (fun T A t k => XS.istoreN A B.x rfl (B.d d11_21) rfl (l' := #[.val (.ref a1), .val (.int (64 : Int32)), .val (.int (0 : Int32)), .val (.int (3 : Int32))]) rfl k) ?_
  refine gs (mkF m 23 _ [(.int (0 : Int32))]) (fun T A t k => XS.iloadN A B.x rfl (B.d d11_22) rfl k) ?_
  refine gs (mkF m 24 _ [(.int (3 : Int32)), (.int (0 : Int32))]) (fun T A t k => XS.iloadN A B.x rfl (B.d d11_23) rfl k) ?_
  refine gs (mkF m 29 _ []) (fun T A t k => XS.icmpYes A B.x rfl (pc0 := 24) (pc' := 29) rfl (B.d d11_24) rfl (tlt (by decide : (0 : Int32) < (3 : Int32))).1 (by decide) (by decide) k) ?_
  refine gs (mkF m 30 _ [(.ref a1)]) (fun T A t k => XS.aloadN A B.x rfl (B.d d11_29) rfl rfl k) ?_
  refine gs (mkF m 31 _ [(.int (64 : Int32)), (.ref a1)]) (fun T A t k => XS.iloadN A B.x rfl (B.d d11_30) rfl k) ?_
  refine gs (mkF m 32 _ [(.int (0 : Int32)), (.int (64 : Int32)), (.ref a1)]) (fun T A t k => XS.iloadN A B.x rfl (B.d d11_31) rfl k) ?_
  refine gs (mkF m 33 _ [(.int (3 : Int32)), (.int (0 : Int32)), (.int (64 : Int32)), (.ref a1)]) (fun T A t k => XS.iloadN A B.x rfl (B.d d11_32) rfl k) ?_
  refine g_metN (c_static B (hw _ (List.mem_of_getElem? (i := 87) rfl)) (hw _ (List.mem_of_getElem? (i := 88) rfl)) (hw _ (List.mem_of_getElem? (i := 59) rfl)) (hw _ (List.mem_of_getElem? (i := 89) rfl)) (by decide) rfl (lenOf pd_285bBIII29I rfl) rfl (Nat.le_of_eq rfl) d11_33 rfl (argsL := [(.ref a1), (.int (64 : Int32)), (.int (0 : Int32)), (.int (3 : Int32))]) (rest := []) (W := 0) (q := 36)) (n_l_indexOfChar_64_3 l Z a0 hw hEL a1 zc rv kb c0 c1 c2 h0 n0 PA hr0 hr1 hr2 hl0 hl1 hl2 PX PO) (hw _ (List.mem_of_getElem? (i := 89) rfl)) (hw _ (List.mem_of_getElem? (i := 59) rfl)) (by decide) (by decide) (by decide) (by decide) ?_
  intro v24 h24 hz24 hQ24
  obtain ⟨rfl, rfl⟩ := hQ24
  exact g_retI B d11_36 (by decide) (by decide) ⟨rfl, rfl⟩
set_option maxRecDepth 65536 in
set_option maxHeartbeats 40000000 in
theorem n_u_indexOfCharUnsafe_64_3 (l : Launch) (Z : State) (a0 : Array Value) (hw : ∀ d ∈ tables_1, d.before a0 Z = true) (hEL : EW Z a0 []) (a1 : Addr) (zc : Int32) (rv : Value) (kb : ClassId) (c0 c1 c2 : Int32) (h0 : Heap) (n0 : Nat) (PA : Arv Z h0 a1 kb .byte (6 : Int32) [(.int (StrChars.lo8 c0)), (.int (StrChars.hi8 c0)), (.int (StrChars.lo8 c1)), (.int (StrChars.hi8 c1)), (.int (StrChars.lo8 c2)), (.int (StrChars.hi8 c2))] (.int (0 : Int32))) (hr0 : rng c0) (hr1 : rng c1) (hr2 : rng c2) (PX : Sts Z zc rv) (PO : Old Z n0 h0) :
    Met false Z [] l (⟨"java/lang/StringUTF16", "indexOfCharUnsafe", "([BIII)I"⟩ : MethodName) jdk_52_method_48_code 5 (some .int) ({ frames := 1, cells := 0, slots := 0, locals := 13 } : Room) #[(.ref a1), (.int (64 : Int32)), (.int (0 : Int32)), (.int (3 : Int32))] h0 [] n0 (fun v h => v = some (.int (if c0 = (64 : Int32) then (0 : Int32) else (if c1 = (64 : Int32) then (1 : Int32) else (if c2 = (64 : Int32) then (2 : Int32) else (-1 : Int32))))) ∧ h0 = h) := by
  refine Met.of (a0 := a0) (Ls := #[.val (.ref a1), .val (.int (64 : Int32)), .val (.int (0 : Int32)), .val (.int (3 : Int32)), .unset]) (fun z => rfl) (plainFor_of_name pn_java_lang_StringUTF16) hEL (fun m => by first | (simp [entryFrame, mkF, argsToLocals, Value.category]; done) | rfl) ?_
  intro p e s m below meth c B hSf
  obtain ⟨SC, hzc, SA, SH, SL, SF, rf⟩ := id PX
  refine gs (mkF m 1 _ [(.int (0 : Int32))]) (fun T A t k => XS.iloadN A B.x rfl (B.d d32_0) rfl k) ?_
  refine gs (mkF m 3 #[.val (.ref a1), .val (.int (64 : Int32)), .val (.int (0 : Int32)), .val (.int (3 : Int32)), .val (.int (0 : Int32))] []) (fun T A t k => XS.istore A B.x rfl (B.d d32_1) rfl (l' := #[.val (.ref a1), .val (.int (64 : Int32)), .val (.int (0 : Int32)), .val (.int (3 : Int32)), .val (.int (0 : Int32))]) rfl k) ?_
  refine gs (mkF m 5 _ [(.int (0 : Int32))]) (fun T A t k => XS.iload A B.x rfl (B.d d32_3) rfl k) ?_
  refine gs (mkF m 6 _ [(.int (3 : Int32)), (.int (0 : Int32))]) (fun T A t k => XS.iloadN A B.x rfl (B.d d32_5) rfl k) ?_
  refine gs (mkF m 9 _ []) (fun T A t k => XS.icmpNo A B.x rfl (B.d d32_6) rfl (tlt (by decide : (0 : Int32) < (3 : Int32))).2.1 k) ?_
  refine gs (mkF m 10 _ [(.ref a1)]) (fun T A t k => XS.aloadN A B.x rfl (B.d d32_9) rfl rfl k) ?_
  refine gs (mkF m 12 _ [(.int (0 : Int32)), (.ref a1)]) (fun T A t k => XS.iload A B.x rfl (B.d d32_10) rfl k) ?_
  refine g_metN (c_static B (hw _ (List.mem_of_getElem? (i := 106) rfl)) (hw _ (List.mem_of_getElem? (i := 107) rfl)) (hw _ (List.mem_of_getElem? (i := 76) rfl)) (hw _ (List.mem_of_getElem? (i := 108) rfl)) (by decide) rfl (lenOf pd_285bBI29C rfl) rfl (Nat.le_of_eq rfl) d32_12 rfl (argsL := [(.ref a1), (.int (0 : Int32))]) (rest := []) (W := 0) (q := 15)) (n_gc_6_0 l Z a0 hw hEL a1 zc rv kb c0 c1 c2 h0 n0 PA hr0 PX PO) (hw _ (List.mem_of_getElem? (i := 108) rfl)) (hw _ (List.mem_of_getElem? (i := 76) rfl)) (by decide) (by decide) (by decide) (by decide) ?_
  intro v21 h21 hz21 hQ21
  obtain ⟨rfl, rfl⟩ := hQ21
  refine gs (mkF m 16 _ [(.int (64 : Int32)), (.int c0)]) (fun T A t k => XS.iloadN A B.x rfl (B.d d32_15) rfl k) ?_
  by_cases hE0 : c0 = (64 : Int32)
  · refine gs (mkF m 19 _ []) (fun T A t k => XS.icmpNo A B.x rfl (B.d d32_16) rfl (teq (hE0 : c0 = (64 : Int32))).2 k) ?_
    refine gs (mkF m 21 _ [(.int (0 : Int32))]) (fun T A t k => XS.iload A B.x rfl (B.d d32_19) rfl k) ?_
    exact g_retI B d32_21 (by decide) (by decide) ⟨by rw [if_pos hE0], rfl⟩
  · refine gs (mkF m 22 _ []) (fun T A t k => XS.icmpYes A B.x rfl (pc0 := 16) (pc' := 22) rfl (B.d d32_16) rfl (feq (hE0 : ¬ (c0 = (64 : Int32)))).2 (by decide) (by decide) k) ?_
    refine gs (mkF m 25 #[.val (.ref a1), .val (.int (64 : Int32)), .val (.int (0 : Int32)), .val (.int (3 : Int32)), .val (.int (1 : Int32))] []) (fun T A t k => XS.iinc A B.x rfl (B.d d32_22) rfl (l' := #[.val (.ref a1), .val (.int (64 : Int32)), .val (.int (0 : Int32)), .val (.int (3 : Int32)), .val (.int (1 : Int32))]) rfl k) ?_
    refine gs (mkF m 3 _ []) (fun T A t k => XS.goto A B.x rfl (pc0 := 25) (pc' := 3) rfl (B.d d32_25) (by decide) (by decide) k) ?_
    refine gs (mkF m 5 _ [(.int (1 : Int32))]) (fun T A t k => XS.iload A B.x rfl (B.d d32_3) rfl k) ?_
    refine gs (mkF m 6 _ [(.int (3 : Int32)), (.int (1 : Int32))]) (fun T A t k => XS.iloadN A B.x rfl (B.d d32_5) rfl k) ?_
    refine gs (mkF m 9 _ []) (fun T A t k => XS.icmpNo A B.x rfl (B.d d32_6) rfl (tlt (by decide : (1 : Int32) < (3 : Int32))).2.1 k) ?_
    refine gs (mkF m 10 _ [(.ref a1)]) (fun T A t k => XS.aloadN A B.x rfl (B.d d32_9) rfl rfl k) ?_
    refine gs (mkF m 12 _ [(.int (1 : Int32)), (.ref a1)]) (fun T A t k => XS.iload A B.x rfl (B.d d32_10) rfl k) ?_
    refine g_metN (c_static B (hw _ (List.mem_of_getElem? (i := 106) rfl)) (hw _ (List.mem_of_getElem? (i := 107) rfl)) (hw _ (List.mem_of_getElem? (i := 76) rfl)) (hw _ (List.mem_of_getElem? (i := 108) rfl)) (by decide) rfl (lenOf pd_285bBI29C rfl) rfl (Nat.le_of_eq rfl) d32_12 rfl (argsL := [(.ref a1), (.int (1 : Int32))]) (rest := []) (W := 0) (q := 15)) (n_gc_6_1 l Z a0 hw hEL a1 zc rv kb c0 c1 c2 h0 n0 PA hr1 PX PO) (hw _ (List.mem_of_getElem? (i := 108) rfl)) (hw _ (List.mem_of_getElem? (i := 76) rfl)) (by decide) (by decide) (by decide) (by decide) ?_
    intro v22 h22 hz22 hQ22
    obtain ⟨rfl, rfl⟩ := hQ22
    refine gs (mkF m 16 _ [(.int (64 : Int32)), (.int c1)]) (fun T A t k => XS.iloadN A B.x rfl (B.d d32_15) rfl k) ?_
    by_cases hE1 : c1 = (64 : Int32)
    · refine gs (mkF m 19 _ []) (fun T A t k => XS.icmpNo A B.x rfl (B.d d32_16) rfl (teq (hE1 : c1 = (64 : Int32))).2 k) ?_
      refine gs (mkF m 21 _ [(.int (1 : Int32))]) (fun T A t k => XS.iload A B.x rfl (B.d d32_19) rfl k) ?_
      exact g_retI B d32_21 (by decide) (by decide) ⟨by rw [if_neg hE0, if_pos hE1], rfl⟩
    · refine gs (mkF m 22 _ []) (fun T A t k => XS.icmpYes A B.x rfl (pc0 := 16) (pc' := 22) rfl (B.d d32_16) rfl (feq (hE1 : ¬ (c1 = (64 : Int32)))).2 (by decide) (by decide) k) ?_
      refine gs (mkF m 25 #[.val (.ref a1), .val (.int (64 : Int32)), .val (.int (0 : Int32)), .val (.int (3 : Int32)), .val (.int (2 : Int32))] []) (fun T A t k => XS.iinc A B.x rfl (B.d d32_22) rfl (l' := #[.val (.ref a1), .val (.int (64 : Int32)), .val (.int (0 : Int32)), .val (.int (3 : Int32)), .val (.int (2 : Int32))]) rfl k) ?_
      refine gs (mkF m 3 _ []) (fun T A t k => XS.goto A B.x rfl (pc0 := 25) (pc' := 3) rfl (B.d d32_25) (by decide) (by decide) k) ?_
      refine gs (mkF m 5 _ [(.int (2 : Int32))]) (fun T A t k => XS.iload A B.x rfl (B.d d32_3) rfl k) ?_
      refine gs (mkF m 6 _ [(.int (3 : Int32)), (.int (2 : Int32))]) (fun T A t k => XS.iloadN A B.x rfl (B.d d32_5) rfl k) ?_
      refine gs (mkF m 9 _ []) (fun T A t k => XS.icmpNo A B.x rfl (B.d d32_6) rfl (tlt (by decide : (2 : Int32) < (3 : Int32))).2.1 k) ?_
      refine gs (mkF m 10 _ [(.ref a1)]) (fun T A t k => XS.aloadN A B.x rfl (B.d d32_9) rfl rfl k) ?_
      refine gs (mkF m 12 _ [(.int (2 : Int32)), (.ref a1)]) (fun T A t k => XS.iload A B.x rfl (B.d d32_10) rfl k) ?_
      refine g_metN (c_static B (hw _ (List.mem_of_getElem? (i := 106) rfl)) (hw _ (List.mem_of_getElem? (i := 107) rfl)) (hw _ (List.mem_of_getElem? (i := 76) rfl)) (hw _ (List.mem_of_getElem? (i := 108) rfl)) (by decide) rfl (lenOf pd_285bBI29C rfl) rfl (Nat.le_of_eq rfl) d32_12 rfl (argsL := [(.ref a1), (.int (2 : Int32))]) (rest := []) (W := 0) (q := 15)) (n_gc_6_2 l Z a0 hw hEL a1 zc rv kb c0 c1 c2 h0 n0 PA hr2 PX PO) (hw _ (List.mem_of_getElem? (i := 108) rfl)) (hw _ (List.mem_of_getElem? (i := 76) rfl)) (by decide) (by decide) (by decide) (by decide) ?_
      intro v23 h23 hz23 hQ23
      obtain ⟨rfl, rfl⟩ := hQ23
      refine gs (mkF m 16 _ [(.int (64 : Int32)), (.int c2)]) (fun T A t k => XS.iloadN A B.x rfl (B.d d32_15) rfl k) ?_
      by_cases hE2 : c2 = (64 : Int32)
      · refine gs (mkF m 19 _ []) (fun T A t k => XS.icmpNo A B.x rfl (B.d d32_16) rfl (teq (hE2 : c2 = (64 : Int32))).2 k) ?_
        refine gs (mkF m 21 _ [(.int (2 : Int32))]) (fun T A t k => XS.iload A B.x rfl (B.d d32_19) rfl k) ?_
        exact g_retI B d32_21 (by decide) (by decide) ⟨by rw [if_neg hE0, if_neg hE1, if_pos hE2], rfl⟩
      · refine gs (mkF m 22 _ []) (fun T A t k => XS.icmpYes A B.x rfl (pc0 := 16) (pc' := 22) rfl (B.d d32_16) rfl (feq (hE2 : ¬ (c2 = (64 : Int32)))).2 (by decide) (by decide) k) ?_
        refine gs (mkF m 25 #[.val (.ref a1), .val (.int (64 : Int32)), .val (.int (0 : Int32)), .val (.int (3 : Int32)), .val (.int (3 : Int32))] []) (fun T A t k => XS.iinc A B.x rfl (B.d d32_22) rfl (l' := #[.val (.ref a1), .val (.int (64 : Int32)), .val (.int (0 : Int32)), .val (.int (3 : Int32)), .val (.int (3 : Int32))]) rfl k) ?_
        refine gs (mkF m 3 _ []) (fun T A t k => XS.goto A B.x rfl (pc0 := 25) (pc' := 3) rfl (B.d d32_25) (by decide) (by decide) k) ?_
        refine gs (mkF m 5 _ [(.int (3 : Int32))]) (fun T A t k => XS.iload A B.x rfl (B.d d32_3) rfl k) ?_
        refine gs (mkF m 6 _ [(.int (3 : Int32)), (.int (3 : Int32))]) (fun T A t k => XS.iloadN A B.x rfl (B.d d32_5) rfl k) ?_
        refine gs (mkF m 28 _ []) (fun T A t k => XS.icmpYes A B.x rfl (pc0 := 6) (pc' := 28) rfl (B.d d32_6) rfl (flt (by decide : ¬ ((3 : Int32) < (3 : Int32)))).2.1 (by decide) (by decide) k) ?_
        refine gs (mkF m 29 _ [(.int (-1 : Int32))]) (fun T A t k => XS.iconst A B.x rfl (B.d d32_28) k) ?_
        exact g_retI B d32_29 (by decide) (by decide) ⟨by rw [if_neg hE0, if_neg hE1, if_neg hE2], rfl⟩
set_option maxRecDepth 65536 in
set_option maxHeartbeats 40000000 in
theorem n_u_indexOfChar_64_3 (l : Launch) (Z : State) (a0 : Array Value) (hw : ∀ d ∈ tables_1, d.before a0 Z = true) (hEL : EW Z a0 []) (a1 : Addr) (zc : Int32) (rv : Value) (kb : ClassId) (c0 c1 c2 : Int32) (h0 : Heap) (n0 : Nat) (PA : Arv Z h0 a1 kb .byte (6 : Int32) [(.int (StrChars.lo8 c0)), (.int (StrChars.hi8 c0)), (.int (StrChars.lo8 c1)), (.int (StrChars.hi8 c1)), (.int (StrChars.lo8 c2)), (.int (StrChars.hi8 c2))] (.int (0 : Int32))) (hr0 : rng c0) (hr1 : rng c1) (hr2 : rng c2) (PX : Sts Z zc rv) (PO : Old Z n0 h0) :
    Met false Z [] l (⟨"java/lang/StringUTF16", "indexOfChar", "([BIII)I"⟩ : MethodName) jdk_52_method_47_code 4 (some .int) ({ frames := 3, cells := 0, slots := 0, locals := 43 } : Room) #[(.ref a1), (.int (64 : Int32)), (.int (0 : Int32)), (.int (3 : Int32))] h0 [] n0 (fun v h => v = some (.int (if c0 = (64 : Int32) then (0 : Int32) else (if c1 = (64 : Int32) then (1 : Int32) else (if c2 = (64 : Int32) then (2 : Int32) else (-1 : Int32))))) ∧ h0 = h) := by
  refine Met.of (a0 := a0) (Ls := #[.val (.ref a1), .val (.int (64 : Int32)), .val (.int (0 : Int32)), .val (.int (3 : Int32))]) (fun z => rfl) (plainFor_of_name pn_java_lang_StringUTF16) hEL (fun m => by first | (simp [entryFrame, mkF, argsToLocals, Value.category]; done) | rfl) ?_
  intro p e s m below meth c B hSf
  obtain ⟨SC, hzc, SA, SH, SL, SF, rf⟩ := id PX
  refine gs (mkF m 1 _ [(.int (0 : Int32))]) (fun T A t k => XS.iloadN A B.x rfl (B.d d27_0) rfl k) ?_
  refine gs (mkF m 2 _ [(.int (3 : Int32)), (.int (0 : Int32))]) (fun T A t k => XS.iloadN A B.x rfl (B.d d27_1) rfl k) ?_
  refine gs (mkF m 3 _ [(.ref a1), (.int (3 : Int32)), (.int (0 : Int32))]) (fun T A t k => XS.aloadN A B.x rfl (B.d d27_2) rfl rfl k) ?_
  refine g_metN (c_static B (hw _ (List.mem_of_getElem? (i := 118) rfl)) (hw _ (List.mem_of_getElem? (i := 119) rfl)) (hw _ (List.mem_of_getElem? (i := 76) rfl)) (hw _ (List.mem_of_getElem? (i := 120) rfl)) (by decide) rfl (lenOf pd_28II5bB29V rfl) rfl (Nat.le_of_eq rfl) d27_3 rfl (argsL := [(.int (0 : Int32)), (.int (3 : Int32)), (.ref a1)]) (rest := []) (W := 0) (q := 6)) (n_cu_6 l Z a0 hw hEL a1 zc rv kb c0 c1 c2 h0 n0 PA PX PO) (hw _ (List.mem_of_getElem? (i := 120) rfl)) (hw _ (List.mem_of_getElem? (i := 76) rfl)) (by decide) (by decide) (by decide) (by decide) ?_
  intro v21 h21 hz21 hQ21
  obtain ⟨rfl, rfl⟩ := hQ21
  refine gs (mkF m 7 _ [(.ref a1)]) (fun T A t k => XS.aloadN A B.x rfl (B.d d27_6) rfl rfl k) ?_
  refine gs (mkF m 8 _ [(.int (64 : Int32)), (.ref a1)]) (fun T A t k => XS.iloadN A B.x rfl (B.d d27_7) rfl k) ?_
  refine gs (mkF m 9 _ [(.int (0 : Int32)), (.int (64 : Int32)), (.ref a1)]) (fun T A t k => XS.iloadN A B.x rfl (B.d d27_8) rfl k) ?_
  refine gs (mkF m 10 _ [(.int (3 : Int32)), (.int (0 : Int32)), (.int (64 : Int32)), (.ref a1)]) (fun T A t k => XS.iloadN A B.x rfl (B.d d27_9) rfl k) ?_
  refine g_metN (c_static B (hw _ (List.mem_of_getElem? (i := 132) rfl)) (hw _ (List.mem_of_getElem? (i := 133) rfl)) (hw _ (List.mem_of_getElem? (i := 76) rfl)) (hw _ (List.mem_of_getElem? (i := 134) rfl)) (by decide) rfl (lenOf pd_285bBIII29I rfl) rfl (Nat.le_of_eq rfl) d27_10 rfl (argsL := [(.ref a1), (.int (64 : Int32)), (.int (0 : Int32)), (.int (3 : Int32))]) (rest := []) (W := 0) (q := 13)) (n_u_indexOfCharUnsafe_64_3 l Z a0 hw hEL a1 zc rv kb c0 c1 c2 h0 n0 PA hr0 hr1 hr2 PX PO) (hw _ (List.mem_of_getElem? (i := 134) rfl)) (hw _ (List.mem_of_getElem? (i := 76) rfl)) (by decide) (by decide) (by decide) (by decide) ?_
  intro v22 h22 hz22 hQ22
  obtain ⟨rfl, rfl⟩ := hQ22
  exact g_retI B d27_13 (by decide) (by decide) ⟨rfl, rfl⟩
set_option maxRecDepth 65536 in
set_option maxHeartbeats 40000000 in
theorem n_u_indexOf_64_3 (l : Launch) (Z : State) (a0 : Array Value) (hw : ∀ d ∈ tables_1, d.before a0 Z = true) (hEL : EW Z a0 []) (a1 : Addr) (zc : Int32) (rv : Value) (kb : ClassId) (c0 c1 c2 : Int32) (h0 : Heap) (n0 : Nat) (PA : Arv Z h0 a1 kb .byte (6 : Int32) [(.int (StrChars.lo8 c0)), (.int (StrChars.hi8 c0)), (.int (StrChars.lo8 c1)), (.int (StrChars.hi8 c1)), (.int (StrChars.lo8 c2)), (.int (StrChars.hi8 c2))] (.int (0 : Int32))) (hr0 : rng c0) (hr1 : rng c1) (hr2 : rng c2) (PX : Sts Z zc rv) (PO : Old Z n0 h0) :
    Met false Z [] l (⟨"java/lang/StringUTF16", "indexOf", "([BIII)I"⟩ : MethodName) jdk_52_method_40_code 4 (some .int) ({ frames := 4, cells := 0, slots := 0, locals := 58 } : Room) #[(.ref a1), (.int (64 : Int32)), (.int (0 : Int32)), (.int (3 : Int32))] h0 [] n0 (fun v h => v = some (.int (if c0 = (64 : Int32) then (0 : Int32) else (if c1 = (64 : Int32) then (1 : Int32) else (if c2 = (64 : Int32) then (2 : Int32) else (-1 : Int32))))) ∧ h0 = h) := by
  refine Met.of (a0 := a0) (Ls := #[.val (.ref a1), .val (.int (64 : Int32)), .val (.int (0 : Int32)), .val (.int (3 : Int32))]) (fun z => rfl) (plainFor_of_name pn_java_lang_StringUTF16) hEL (fun m => by first | (simp [entryFrame, mkF, argsToLocals, Value.category]; done) | rfl) ?_
  intro p e s m below meth c B hSf
  obtain ⟨SC, hzc, SA, SH, SL, SF, rf⟩ := id PX
  refine gs (mkF m 1 _ [(.int (0 : Int32))]) (fun T A t k => XS.iloadN A B.x rfl (B.d d26_0) rfl k) ?_
  refine gs (mkF m 2 _ [(.int (0 : Int32)), (.int (0 : Int32))]) (fun T A t k => XS.iconst A B.x rfl (B.d d26_1) k) ?_
  refine g_metN (c_static B (hw _ (List.mem_of_getElem? (i := 112) rfl)) (hw _ (List.mem_of_getElem? (i := 65) rfl)) (hw _ (List.mem_of_getElem? (i := 66) rfl)) (hw _ (List.mem_of_getElem? (i := 67) rfl)) (by decide) rfl (lenOf pd_28II29I rfl) rfl (Nat.le_of_eq rfl) d26_2 rfl (argsL := [(.int (0 : Int32)), (.int (0 : Int32))]) (rest := []) (W := 0) (q := 5)) (n_max_0_0 l Z a0 hw hEL  h0 n0) (hw _ (List.mem_of_getElem? (i := 67) rfl)) (hw _ (List.mem_of_getElem? (i := 66) rfl)) (by decide) (by decide) (by decide) (by decide) ?_
  intro v21 h21 hz21 hQ21
  obtain ⟨rfl, rfl⟩ := hQ21
  refine gs (mkF m 6 #[.val (.ref a1), .val (.int (64 : Int32)), .val (.int (0 : Int32)), .val (.int (3 : Int32))] []) (fun T A t k => XS.istoreN A B.x rfl (B.d d26_5) rfl (l' := #[.val (.ref a1), .val (.int (64 : Int32)), .val (.int (0 : Int32)), .val (.int (3 : Int32))]) rfl k) ?_
  refine gs (mkF m 7 _ [(.int (3 : Int32))]) (fun T A t k => XS.iloadN A B.x rfl (B.d d26_6) rfl k) ?_
  refine gs (mkF m 8 _ [(.ref a1), (.int (3 : Int32))]) (fun T A t k => XS.aloadN A B.x rfl (B.d d26_7) rfl rfl k) ?_
  refine g_len B PA d26_8 (q := 9) rfl ?_
  refine gs (mkF m 10 _ [(.int (1 : Int32)), (.int (6 : Int32)), (.int (3 : Int32))]) (fun T A t k => XS.iconst A B.x rfl (B.d d26_9) k) ?_
  refine gs (mkF m 11 _ [(.int (3 : Int32)), (.int (3 : Int32))]) (fun T A t k => XS.ishr A B.x rfl (B.d d26_10) rfl k) ?_
  refine g_metN (c_static B (hw _ (List.mem_of_getElem? (i := 113) rfl)) (hw _ (List.mem_of_getElem? (i := 69) rfl)) (hw _ (List.mem_of_getElem? (i := 66) rfl)) (hw _ (List.mem_of_getElem? (i := 70) rfl)) (by decide) rfl (lenOf pd_28II29I rfl) rfl (Nat.le_of_eq rfl) d26_11 rfl (argsL := [(.int (3 : Int32)), (.int (3 : Int32))]) (rest := []) (W := 0) (q := 14)) (n_min_3_3 l Z a0 hw hEL  h0 n0) (hw _ (List.mem_of_getElem? (i := 70) rfl)) (hw _ (List.mem_of_getElem? (i := 66) rfl)) (by decide) (by decide) (by decide) (by decide) ?_
  intro v22 h22 hz22 hQ22
  obtain ⟨rfl, rfl⟩ := hQ22
  refine gs (mkF m 15 #[.val (.ref a1), .val (.int (64 : Int32)), .val (.int (0 : Int32)), .val (.int (3 : Int32))] []) (fun T A t k => XS.istoreN A B.x rfl (B.d d26_14) rfl (l' := #[.val (.ref a1), .val (.int (64 : Int32)), .val (.int (0 : Int32)), .val (.int (3 : Int32))]) rfl k) ?_
  refine gs (mkF m 16 _ [(.int (0 : Int32))]) (fun T A t k => XS.iloadN A B.x rfl (B.d d26_15) rfl k) ?_
  refine gs (mkF m 17 _ [(.int (3 : Int32)), (.int (0 : Int32))]) (fun T A t k => XS.iloadN A B.x rfl (B.d d26_16) rfl k) ?_
  refine gs (mkF m 22 _ []) (fun T A t k => XS.icmpYes A B.x rfl (pc0 := 17) (pc' := 22) rfl (B.d d26_17) rfl (tlt (by decide : (0 : Int32) < (3 : Int32))).1 (by decide) (by decide) k) ?_
  refine gs (mkF m 23 _ [(.int (64 : Int32))]) (fun T A t k => XS.iloadN A B.x rfl (B.d d26_22) rfl k) ?_
  refine g_ldcI B (hw _ (List.mem_of_getElem? (i := 114) rfl)) d26_23 (q := 25) rfl ?_
  refine gs (mkF m 28 _ []) (fun T A t k => XS.icmpNo A B.x rfl (B.d d26_25) rfl (tlt (by decide : (64 : Int32) < (65536 : Int32))).2.1 k) ?_
  refine gs (mkF m 29 _ [(.ref a1)]) (fun T A t k => XS.aloadN A B.x rfl (B.d d26_28) rfl rfl k) ?_
  refine gs (mkF m 30 _ [(.int (64 : Int32)), (.ref a1)]) (fun T A t k => XS.iloadN A B.x rfl (B.d d26_29) rfl k) ?_
  refine gs (mkF m 31 _ [(.int (0 : Int32)), (.int (64 : Int32)), (.ref a1)]) (fun T A t k => XS.iloadN A B.x rfl (B.d d26_30) rfl k) ?_
  refine gs (mkF m 32 _ [(.int (3 : Int32)), (.int (0 : Int32)), (.int (64 : Int32)), (.ref a1)]) (fun T A t k => XS.iloadN A B.x rfl (B.d d26_31) rfl k) ?_
  refine g_metN (c_static B (hw _ (List.mem_of_getElem? (i := 115) rfl)) (hw _ (List.mem_of_getElem? (i := 116) rfl)) (hw _ (List.mem_of_getElem? (i := 76) rfl)) (hw _ (List.mem_of_getElem? (i := 117) rfl)) (by decide) rfl (lenOf pd_285bBIII29I rfl) rfl (Nat.le_of_eq rfl) d26_32 rfl (argsL := [(.ref a1), (.int (64 : Int32)), (.int (0 : Int32)), (.int (3 : Int32))]) (rest := []) (W := 0) (q := 35)) (n_u_indexOfChar_64_3 l Z a0 hw hEL a1 zc rv kb c0 c1 c2 h0 n0 PA hr0 hr1 hr2 PX PO) (hw _ (List.mem_of_getElem? (i := 117) rfl)) (hw _ (List.mem_of_getElem? (i := 76) rfl)) (by decide) (by decide) (by decide) (by decide) ?_
  intro v23 h23 hz23 hQ23
  obtain ⟨rfl, rfl⟩ := hQ23
  exact g_retI B d26_35 (by decide) (by decide) ⟨rfl, rfl⟩
set_option maxRecDepth 65536 in
set_option maxHeartbeats 40000000 in
theorem n_idx2_64_3 (l : Launch) (Z : State) (a0 : Array Value) (hw : ∀ d ∈ tables_1, d.before a0 Z = true) (hEL : EW Z a0 []) (a1 : Addr) (zc : Int32) (rv : Value) (t : Addr) (c0 c1 c2 : Int32) (h0 : Heap) (n0 : Nat) (PS : Str Z h0 a1 t [c0, c1, c2]) (PX : Sts Z zc rv) (PO : Old Z n0 h0) :
    Met false Z [] l (⟨"java/lang/String", "indexOf", "(II)I"⟩ : MethodName) jdk_42_method_80_code 3 (some .int) ({ frames := 5, cells := 0, slots := 0, locals := 73 } : Room) #[(.ref a1), (.int (64 : Int32)), (.int (0 : Int32))] h0 [] n0 (fun v h => v = some (.int (if c0 = (64 : Int32) then (0 : Int32) else (if c1 = (64 : Int32) then (1 : Int32) else (if c2 = (64 : Int32) then (2 : Int32) else (-1 : Int32))))) ∧ h0 = h) := by
  refine Met.of (a0 := a0) (Ls := #[.val (.ref a1), .val (.int (64 : Int32)), .val (.int (0 : Int32))]) (fun z => rfl) (plainFor_of_name pn_java_lang_String) hEL (fun m => by first | (simp [entryFrame, mkF, argsToLocals, Value.category]; done) | rfl) ?_
  intro p e s m below meth c B hSf
  obtain ⟨SC, hzc, SA, SH, SL, SF, rf⟩ := id PX
  obtain ⟨PE, PV, cd, N2, vs, kb, PC, PA0, hcod, hb, -⟩ := PS
  have hr0 : rng c0 := hb _ (by simp)
  have hr1 : rng c1 := hb _ (by simp)
  have hr2 : rng c2 := hb _ (by simp)
  rcases hcod with ⟨rfl, rfl, rfl, hlat⟩ | ⟨rfl, rfl, rfl, hwd⟩
  · have PA : Arv Z h0 t kb .byte (3 : Int32) [(.int (StrChars.lo8 c0)), (.int (StrChars.lo8 c1)), (.int (StrChars.lo8 c2))] (.int (0 : Int32)) := PA0
    have hl0 : ¬ (255 : Int32) < c0 := hlat _ (by simp)
    have hl1 : ¬ (255 : Int32) < c1 := hlat _ (by simp)
    have hl2 : ¬ (255 : Int32) < c2 := hlat _ (by simp)
    refine gs (mkF m 1 _ [(.ref a1)]) (fun T A t k => XS.aloadN A B.x rfl (B.d d7_0) rfl rfl k) ?_
    refine g_metN (c_virt B PE (hw _ (List.mem_of_getElem? (i := 41) rfl)) (hw _ (List.mem_of_getElem? (i := 42) rfl)) (hw _ (List.mem_of_getElem? (i := 44) rfl)) (hw _ (List.mem_of_getElem? (i := 43) rfl)) (nfs (z := (⟨"java/lang/String", "isLatin1", "()Z"⟩ : MethodName)) (hw _ (List.mem_of_getElem? (i := 44) rfl))) (by decide) rfl (lenOf pd_2829Z rfl) rfl (Nat.le_of_eq rfl) d7_1 rfl (argsL := []) (rest := []) (W := 0) (q := 4)) (n_isLatin1_0 l Z a0 hw hEL a1 zc rv h0 n0 PE PC PX PO) (hw _ (List.mem_of_getElem? (i := 45) rfl)) (hw _ (List.mem_of_getElem? (i := 7) rfl)) (by decide) (by decide) (by decide) (by decide) ?_
    intro v21 h21 hz21 hQ21
    obtain ⟨rfl, rfl⟩ := hQ21
    refine gs (mkF m 7 _ []) (fun T A t k => XS.ifNo A B.x rfl (B.d d7_4) rfl ((if0 _ _).trans (feq (by decide : ¬ ((1 : Int32) = (0 : Int32)))).1) k) ?_
    refine gs (mkF m 8 _ [(.ref a1)]) (fun T A t k => XS.aloadN A B.x rfl (B.d d7_7) rfl rfl k) ?_
    refine g_getF B (hw _ (List.mem_of_getElem? (i := 25) rfl)) Via.refl PV d7_8 (q := 11) rfl ?_
    refine gs (mkF m 12 _ [(.int (64 : Int32)), (.ref t)]) (fun T A t k => XS.iloadN A B.x rfl (B.d d7_11) rfl k) ?_
    refine gs (mkF m 13 _ [(.int (0 : Int32)), (.int (64 : Int32)), (.ref t)]) (fun T A t k => XS.iloadN A B.x rfl (B.d d7_12) rfl k) ?_
    refine gs (mkF m 14 _ [(.ref a1), (.int (0 : Int32)), (.int (64 : Int32)), (.ref t)]) (fun T A t k => XS.aloadN A B.x rfl (B.d d7_13) rfl rfl k) ?_
    refine g_metN (c_virt B PE (hw _ (List.mem_of_getElem? (i := 47) rfl)) (hw _ (List.mem_of_getElem? (i := 48) rfl)) (hw _ (List.mem_of_getElem? (i := 50) rfl)) (hw _ (List.mem_of_getElem? (i := 49) rfl)) (nfs (z := (⟨"java/lang/String", "length", "()I"⟩ : MethodName)) (hw _ (List.mem_of_getElem? (i := 50) rfl))) (by decide) rfl (lenOf pd_2829I rfl) rfl (Nat.le_of_eq rfl) d7_14 rfl (argsL := []) (rest := [(.int (0 : Int32)), (.int (64 : Int32)), (.ref t)]) (W := 3) (q := 17)) (n_length_3_0 l Z a0 hw hEL a1 zc rv t kb c0 c1 c2 h0 n0 PE PC PV PA PX PO) (hw _ (List.mem_of_getElem? (i := 51) rfl)) (hw _ (List.mem_of_getElem? (i := 7) rfl)) (by decide) (by decide) (by decide) (by decide) ?_
    intro v22 h22 hz22 hQ22
    obtain ⟨rfl, rfl⟩ := hQ22
    refine g_metN (c_static B (hw _ (List.mem_of_getElem? (i := 57) rfl)) (hw _ (List.mem_of_getElem? (i := 58) rfl)) (hw _ (List.mem_of_getElem? (i := 59) rfl)) (hw _ (List.mem_of_getElem? (i := 60) rfl)) (by decide) rfl (lenOf pd_285bBIII29I rfl) rfl (Nat.le_of_eq rfl) d7_17 rfl (argsL := [(.ref t), (.int (64 : Int32)), (.int (0 : Int32)), (.int (3 : Int32))]) (rest := []) (W := 0) (q := 20)) (n_l_indexOf_64_3 l Z a0 hw hEL t zc rv kb c0 c1 c2 h0 n0 PA hr0 hr1 hr2 hl0 hl1 hl2 PX PO) (hw _ (List.mem_of_getElem? (i := 60) rfl)) (hw _ (List.mem_of_getElem? (i := 59) rfl)) (by decide) (by decide) (by decide) (by decide) ?_
    intro v23 h23 hz23 hQ23
    obtain ⟨rfl, rfl⟩ := hQ23
    refine gs (mkF m 36 _ [(.int (if c0 = (64 : Int32) then (0 : Int32) else (if c1 = (64 : Int32) then (1 : Int32) else (if c2 = (64 : Int32) then (2 : Int32) else (-1 : Int32)))))]) (fun T A t k => XS.goto A B.x rfl (pc0 := 20) (pc' := 36) rfl (B.d d7_20) (by decide) (by decide) k) ?_
    exact g_retI B d7_36 (by decide) (by decide) ⟨rfl, rfl⟩
  · have PA : Arv Z h0 t kb .byte (6 : Int32) [(.int (StrChars.lo8 c0)), (.int (StrChars.hi8 c0)), (.int (StrChars.lo8 c1)), (.int (StrChars.hi8 c1)), (.int (StrChars.lo8 c2)), (.int (StrChars.hi8 c2))] (.int (0 : Int32)) := PA0
    refine gs (mkF m 1 _ [(.ref a1)]) (fun T A t k => XS.aloadN A B.x rfl (B.d d7_0) rfl rfl k) ?_
    refine g_metN (c_virt B PE (hw _ (List.mem_of_getElem? (i := 41) rfl)) (hw _ (List.mem_of_getElem? (i := 42) rfl)) (hw _ (List.mem_of_getElem? (i := 44) rfl)) (hw _ (List.mem_of_getElem? (i := 43) rfl)) (nfs (z := (⟨"java/lang/String", "isLatin1", "()Z"⟩ : MethodName)) (hw _ (List.mem_of_getElem? (i := 44) rfl))) (by decide) rfl (lenOf pd_2829Z rfl) rfl (Nat.le_of_eq rfl) d7_1 rfl (argsL := []) (rest := []) (W := 0) (q := 4)) (n_isLatin1_1 l Z a0 hw hEL a1 zc rv h0 n0 PE PC PX PO) (hw _ (List.mem_of_getElem? (i := 45) rfl)) (hw _ (List.mem_of_getElem? (i := 7) rfl)) (by decide) (by decide) (by decide) (by decide) ?_
    intro v24 h24 hz24 hQ24
    obtain ⟨rfl, rfl⟩ := hQ24
    refine gs (mkF m 23 _ []) (fun T A t k => XS.ifYes A B.x rfl (pc0 := 4) (pc' := 23) rfl (B.d d7_4) rfl ((if0 _ _).trans (teq (by decide : (0 : Int32) = (0 : Int32))).1) (by decide) (by decide) k) ?_
    refine gs (mkF m 24 _ [(.ref a1)]) (fun T A t k => XS.aloadN A B.x rfl (B.d d7_23) rfl rfl k) ?_
    refine g_getF B (hw _ (List.mem_of_getElem? (i := 25) rfl)) Via.refl PV d7_24 (q := 27) rfl ?_
    refine gs (mkF m 28 _ [(.int (64 : Int32)), (.ref t)]) (fun T A t k => XS.iloadN A B.x rfl (B.d d7_27) rfl k) ?_
    refine gs (mkF m 29 _ [(.int (0 : Int32)), (.int (64 : Int32)), (.ref t)]) (fun T A t k => XS.iloadN A B.x rfl (B.d d7_28) rfl k) ?_
    refine gs (mkF m 30 _ [(.ref a1), (.int (0 : Int32)), (.int (64 : Int32)), (.ref t)]) (fun T A t k => XS.aloadN A B.x rfl (B.d d7_29) rfl rfl k) ?_
    refine g_metN (c_virt B PE (hw _ (List.mem_of_getElem? (i := 47) rfl)) (hw _ (List.mem_of_getElem? (i := 48) rfl)) (hw _ (List.mem_of_getElem? (i := 50) rfl)) (hw _ (List.mem_of_getElem? (i := 49) rfl)) (nfs (z := (⟨"java/lang/String", "length", "()I"⟩ : MethodName)) (hw _ (List.mem_of_getElem? (i := 50) rfl))) (by decide) rfl (lenOf pd_2829I rfl) rfl (Nat.le_of_eq rfl) d7_30 rfl (argsL := []) (rest := [(.int (0 : Int32)), (.int (64 : Int32)), (.ref t)]) (W := 3) (q := 33)) (n_length_6_1 l Z a0 hw hEL a1 zc rv t kb c0 c1 c2 h0 n0 PE PC PV PA PX PO) (hw _ (List.mem_of_getElem? (i := 51) rfl)) (hw _ (List.mem_of_getElem? (i := 7) rfl)) (by decide) (by decide) (by decide) (by decide) ?_
    intro v25 h25 hz25 hQ25
    obtain ⟨rfl, rfl⟩ := hQ25
    refine g_metN (c_static B (hw _ (List.mem_of_getElem? (i := 109) rfl)) (hw _ (List.mem_of_getElem? (i := 110) rfl)) (hw _ (List.mem_of_getElem? (i := 76) rfl)) (hw _ (List.mem_of_getElem? (i := 111) rfl)) (by decide) rfl (lenOf pd_285bBIII29I rfl) rfl (Nat.le_of_eq rfl) d7_33 rfl (argsL := [(.ref t), (.int (64 : Int32)), (.int (0 : Int32)), (.int (3 : Int32))]) (rest := []) (W := 0) (q := 36)) (n_u_indexOf_64_3 l Z a0 hw hEL t zc rv kb c0 c1 c2 h0 n0 PA hr0 hr1 hr2 PX PO) (hw _ (List.mem_of_getElem? (i := 111) rfl)) (hw _ (List.mem_of_getElem? (i := 76) rfl)) (by decide) (by decide) (by decide) (by decide) ?_
    intro v26 h26 hz26 hQ26
    obtain ⟨rfl, rfl⟩ := hQ26
    exact g_retI B d7_36 (by decide) (by decide) ⟨rfl, rfl⟩
set_option maxRecDepth 65536 in
set_option maxHeartbeats 40000000 in
theorem n_idx1_64_3 (l : Launch) (Z : State) (a0 : Array Value) (hw : ∀ d ∈ tables_1, d.before a0 Z = true) (hEL : EW Z a0 []) (a1 : Addr) (zc : Int32) (rv : Value) (t : Addr) (c0 c1 c2 : Int32) (h0 : Heap) (n0 : Nat) (PS : Str Z h0 a1 t [c0, c1, c2]) (PX : Sts Z zc rv) (PO : Old Z n0 h0) :
    Met false Z [] l (⟨"java/lang/String", "indexOf", "(I)I"⟩ : MethodName) jdk_42_method_79_code 2 (some .int) ({ frames := 6, cells := 0, slots := 0, locals := 87 } : Room) #[(.ref a1), (.int (64 : Int32))] h0 [] n0 (fun v h => v = some (.int (if c0 = (64 : Int32) then (0 : Int32) else (if c1 = (64 : Int32) then (1 : Int32) else (if c2 = (64 : Int32) then (2 : Int32) else (-1 : Int32))))) ∧ h0 = h) := by
  refine Met.of (a0 := a0) (Ls := #[.val (.ref a1), .val (.int (64 : Int32))]) (fun z => rfl) (plainFor_of_name pn_java_lang_String) hEL (fun m => by first | (simp [entryFrame, mkF, argsToLocals, Value.category]; done) | rfl) ?_
  intro p e s m below meth c B hSf
  obtain ⟨SC, hzc, SA, SH, SL, SF, rf⟩ := id PX
  refine gs (mkF m 1 _ [(.ref a1)]) (fun T A t k => XS.aloadN A B.x rfl (B.d d6_0) rfl rfl k) ?_
  refine gs (mkF m 2 _ [(.int (64 : Int32)), (.ref a1)]) (fun T A t k => XS.iloadN A B.x rfl (B.d d6_1) rfl k) ?_
  refine gs (mkF m 3 _ [(.int (0 : Int32)), (.int (64 : Int32)), (.ref a1)]) (fun T A t k => XS.iconst A B.x rfl (B.d d6_2) k) ?_
  refine g_metN (c_virt B PS.exa (hw _ (List.mem_of_getElem? (i := 36) rfl)) (hw _ (List.mem_of_getElem? (i := 37) rfl)) (hw _ (List.mem_of_getElem? (i := 39) rfl)) (hw _ (List.mem_of_getElem? (i := 38) rfl)) (nfs (z := (⟨"java/lang/String", "indexOf", "(II)I"⟩ : MethodName)) (hw _ (List.mem_of_getElem? (i := 39) rfl))) (by decide) rfl (lenOf pd_28II29I rfl) rfl (Nat.le_of_eq rfl) d6_3 rfl (argsL := [(.int (64 : Int32)), (.int (0 : Int32))]) (rest := []) (W := 0) (q := 6)) (n_idx2_64_3 l Z a0 hw hEL a1 zc rv t c0 c1 c2 h0 n0 PS PX PO) (hw _ (List.mem_of_getElem? (i := 40) rfl)) (hw _ (List.mem_of_getElem? (i := 7) rfl)) (by decide) (by decide) (by decide) (by decide) ?_
  intro v21 h21 hz21 hQ21
  obtain ⟨rfl, rfl⟩ := hQ21
  exact g_retI B d6_6 (by decide) (by decide) ⟨rfl, rfl⟩
set_option maxRecDepth 65536 in
set_option maxHeartbeats 40000000 in
theorem n_isPrincipal_3 (l : Launch) (Z : State) (a0 : Array Value) (hw : ∀ d ∈ tables_1, d.before a0 Z = true) (hEL : EW Z a0 []) (a1 : Addr) (zc : Int32) (rv : Value) (t : Addr) (c0 c1 c2 : Int32) (h0 : Heap) (n0 : Nat) (PS : Str Z h0 a1 t [c0, c1, c2]) (PX : Sts Z zc rv) (PO : Old Z n0 h0) :
    Met false Z [] l (⟨"com/example/multi_domain_access/multidomainaccess/Names", "isPrincipal", "(Ljava/lang/String;)Z"⟩ : MethodName) prog_11_method_5_code 1 (some .boolean) ({ frames := 7, cells := 0, slots := 0, locals := 100 } : Room) #[(.ref a1)] h0 [] n0 (fun v h => v = some (.int (prin [c0, c1, c2])) ∧ h0 = h) := by
  refine Met.of (a0 := a0) (Ls := #[.val (.ref a1)]) (fun z => rfl) (plainFor_of_name pn_com_example_multi_domain_access_multidomainaccess_Names) hEL (fun m => by first | (simp [entryFrame, mkF, argsToLocals, Value.category]; done) | rfl) ?_
  intro p e s m below meth c B hSf
  obtain ⟨SC, hzc, SA, SH, SL, SF, rf⟩ := id PX
  refine gs (mkF m 1 _ [(.ref a1)]) (fun T A t k => XS.aloadN A B.x rfl (B.d d15_0) rfl rfl k) ?_
  refine gs (mkF m 3 _ [(.int (64 : Int32)), (.ref a1)]) (fun T A t k => XS.bipush A B.x rfl (B.d d15_1) k) ?_
  refine g_metN (c_virt B PS.exa (hw _ (List.mem_of_getElem? (i := 31) rfl)) (hw _ (List.mem_of_getElem? (i := 32) rfl)) (hw _ (List.mem_of_getElem? (i := 34) rfl)) (hw _ (List.mem_of_getElem? (i := 33) rfl)) (nfs (z := (⟨"java/lang/String", "indexOf", "(I)I"⟩ : MethodName)) (hw _ (List.mem_of_getElem? (i := 34) rfl))) (by decide) rfl (lenOf pd_28I29I rfl) rfl (Nat.le_of_eq rfl) d15_3 rfl (argsL := [(.int (64 : Int32))]) (rest := []) (W := 0) (q := 6)) (n_idx1_64_3 l Z a0 hw hEL a1 zc rv t c0 c1 c2 h0 n0 PS PX PO) (hw _ (List.mem_of_getElem? (i := 35) rfl)) (hw _ (List.mem_of_getElem? (i := 7) rfl)) (by decide) (by decide) (by decide) (by decide) ?_
  intro v21 h21 hz21 hQ21
  obtain ⟨rfl, rfl⟩ := hQ21
  by_cases hE0 : c0 = (64 : Int32)
  · rw [if_pos hE0]
    refine gs (mkF m 9 _ []) (fun T A t k => XS.ifNo A B.x rfl (B.d d15_6) rfl ((if0 _ _).trans (flt (by decide : ¬ ((0 : Int32) < (0 : Int32)))).1) k) ?_
    refine gs (mkF m 10 _ [(.int (1 : Int32))]) (fun T A t k => XS.iconst A B.x rfl (B.d d15_9) k) ?_
    refine gs (mkF m 14 _ [(.int (1 : Int32))]) (fun T A t k => XS.goto A B.x rfl (pc0 := 10) (pc' := 14) rfl (B.d d15_10) (by decide) (by decide) k) ?_
    exact g_retN (t := .boolean) B (by simp) d15_14 (by decide) (by decide) ⟨by show some (Value.int (1 : Int32)) = _; simp [prin, hE0], rfl⟩
  · by_cases hE1 : c1 = (64 : Int32)
    · rw [if_neg hE0, if_pos hE1]
      refine gs (mkF m 9 _ []) (fun T A t k => XS.ifNo A B.x rfl (B.d d15_6) rfl ((if0 _ _).trans (flt (by decide : ¬ ((1 : Int32) < (0 : Int32)))).1) k) ?_
      refine gs (mkF m 10 _ [(.int (1 : Int32))]) (fun T A t k => XS.iconst A B.x rfl (B.d d15_9) k) ?_
      refine gs (mkF m 14 _ [(.int (1 : Int32))]) (fun T A t k => XS.goto A B.x rfl (pc0 := 10) (pc' := 14) rfl (B.d d15_10) (by decide) (by decide) k) ?_
      exact g_retN (t := .boolean) B (by simp) d15_14 (by decide) (by decide) ⟨by show some (Value.int (1 : Int32)) = _; simp [prin, hE0, hE1], rfl⟩
    · by_cases hE2 : c2 = (64 : Int32)
      · rw [if_neg hE0, if_neg hE1, if_pos hE2]
        refine gs (mkF m 9 _ []) (fun T A t k => XS.ifNo A B.x rfl (B.d d15_6) rfl ((if0 _ _).trans (flt (by decide : ¬ ((2 : Int32) < (0 : Int32)))).1) k) ?_
        refine gs (mkF m 10 _ [(.int (1 : Int32))]) (fun T A t k => XS.iconst A B.x rfl (B.d d15_9) k) ?_
        refine gs (mkF m 14 _ [(.int (1 : Int32))]) (fun T A t k => XS.goto A B.x rfl (pc0 := 10) (pc' := 14) rfl (B.d d15_10) (by decide) (by decide) k) ?_
        exact g_retN (t := .boolean) B (by simp) d15_14 (by decide) (by decide) ⟨by show some (Value.int (1 : Int32)) = _; simp [prin, hE0, hE1, hE2], rfl⟩
      · rw [if_neg hE0, if_neg hE1, if_neg hE2]
        refine gs (mkF m 13 _ []) (fun T A t k => XS.ifYes A B.x rfl (pc0 := 6) (pc' := 13) rfl (B.d d15_6) rfl ((if0 _ _).trans (tlt (by decide : (-1 : Int32) < (0 : Int32))).1) (by decide) (by decide) k) ?_
        refine gs (mkF m 14 _ [(.int (0 : Int32))]) (fun T A t k => XS.iconst A B.x rfl (B.d d15_13) k) ?_
        exact g_retN (t := .boolean) B (by simp) d15_14 (by decide) (by decide) ⟨by show some (Value.int (0 : Int32)) = _; simp [prin, hE0, hE1, hE2], rfl⟩
set_option maxRecDepth 65536 in
set_option maxHeartbeats 40000000 in
theorem n_isLocalName_3 (l : Launch) (Z : State) (a0 : Array Value) (hw : ∀ d ∈ tables_1, d.before a0 Z = true) (hEL : EW Z a0 []) (a1 : Addr) (zc : Int32) (rv : Value) (t : Addr) (c0 c1 c2 : Int32) (h0 : Heap) (n0 : Nat) (PS : Str Z h0 a1 t [c0, c1, c2]) (PX : Sts Z zc rv) (PO : Old Z n0 h0) :
    Met false Z [] l (⟨"com/example/multi_domain_access/multidomainaccess/Names", "isLocalName", "(Ljava/lang/String;)Z"⟩ : MethodName) prog_11_method_7_code 1 (some .boolean) ({ frames := 8, cells := 0, slots := 0, locals := 112 } : Room) #[(.ref a1)] h0 [] n0 (fun v h => v = some (.int (loc [c0, c1, c2])) ∧ h0 = h) := by
  refine Met.of (a0 := a0) (Ls := #[.val (.ref a1)]) (fun z => rfl) (plainFor_of_name pn_com_example_multi_domain_access_multidomainaccess_Names) hEL (fun m => by first | (simp [entryFrame, mkF, argsToLocals, Value.category]; done) | rfl) ?_
  intro p e s m below meth c B hSf
  obtain ⟨SC, hzc, SA, SH, SL, SF, rf⟩ := id PX
  refine gs (mkF m 1 _ [(.ref a1)]) (fun T A t k => XS.aloadN A B.x rfl (B.d d5_0) rfl rfl k) ?_
  refine gs (mkF m 3 _ [(.int (46 : Int32)), (.ref a1)]) (fun T A t k => XS.bipush A B.x rfl (B.d d5_1) k) ?_
  refine g_metN (c_virt B PS.exa (hw _ (List.mem_of_getElem? (i := 31) rfl)) (hw _ (List.mem_of_getElem? (i := 32) rfl)) (hw _ (List.mem_of_getElem? (i := 34) rfl)) (hw _ (List.mem_of_getElem? (i := 33) rfl)) (nfs (z := (⟨"java/lang/String", "indexOf", "(I)I"⟩ : MethodName)) (hw _ (List.mem_of_getElem? (i := 34) rfl))) (by decide) rfl (lenOf pd_28I29I rfl) rfl (Nat.le_of_eq rfl) d5_3 rfl (argsL := [(.int (46 : Int32))]) (rest := []) (W := 0) (q := 6)) (n_idx1_46_3 l Z a0 hw hEL a1 zc rv t c0 c1 c2 h0 n0 PS PX PO) (hw _ (List.mem_of_getElem? (i := 35) rfl)) (hw _ (List.mem_of_getElem? (i := 7) rfl)) (by decide) (by decide) (by decide) (by decide) ?_
  intro v21 h21 hz21 hQ21
  obtain ⟨rfl, rfl⟩ := hQ21
  by_cases hE0 : c0 = (46 : Int32)
  · rw [if_pos hE0]
    refine gs (mkF m 20 _ []) (fun T A t k => XS.ifYes A B.x rfl (pc0 := 6) (pc' := 20) rfl (B.d d5_6) rfl ((if0 _ _).trans (flt (by decide : ¬ ((0 : Int32) < (0 : Int32)))).2.1) (by decide) (by decide) k) ?_
    refine gs (mkF m 21 _ [(.int (0 : Int32))]) (fun T A t k => XS.iconst A B.x rfl (B.d d5_20) k) ?_
    exact g_retN (t := .boolean) B (by simp) d5_21 (by decide) (by decide) ⟨by show some (Value.int (0 : Int32)) = _; simp [loc, hE0], rfl⟩
  · by_cases hE1 : c1 = (46 : Int32)
    · rw [if_neg hE0, if_pos hE1]
      refine gs (mkF m 20 _ []) (fun T A t k => XS.ifYes A B.x rfl (pc0 := 6) (pc' := 20) rfl (B.d d5_6) rfl ((if0 _ _).trans (flt (by decide : ¬ ((1 : Int32) < (0 : Int32)))).2.1) (by decide) (by decide) k) ?_
      refine gs (mkF m 21 _ [(.int (0 : Int32))]) (fun T A t k => XS.iconst A B.x rfl (B.d d5_20) k) ?_
      exact g_retN (t := .boolean) B (by simp) d5_21 (by decide) (by decide) ⟨by show some (Value.int (0 : Int32)) = _; simp [loc, hE0, hE1], rfl⟩
    · by_cases hE2 : c2 = (46 : Int32)
      · rw [if_neg hE0, if_neg hE1, if_pos hE2]
        refine gs (mkF m 20 _ []) (fun T A t k => XS.ifYes A B.x rfl (pc0 := 6) (pc' := 20) rfl (B.d d5_6) rfl ((if0 _ _).trans (flt (by decide : ¬ ((2 : Int32) < (0 : Int32)))).2.1) (by decide) (by decide) k) ?_
        refine gs (mkF m 21 _ [(.int (0 : Int32))]) (fun T A t k => XS.iconst A B.x rfl (B.d d5_20) k) ?_
        exact g_retN (t := .boolean) B (by simp) d5_21 (by decide) (by decide) ⟨by show some (Value.int (0 : Int32)) = _; simp [loc, hE0, hE1, hE2], rfl⟩
      · rw [if_neg hE0, if_neg hE1, if_neg hE2]
        refine gs (mkF m 9 _ []) (fun T A t k => XS.ifNo A B.x rfl (B.d d5_6) rfl ((if0 _ _).trans (tlt (by decide : (-1 : Int32) < (0 : Int32))).2.1) k) ?_
        refine gs (mkF m 10 _ [(.ref a1)]) (fun T A t k => XS.aloadN A B.x rfl (B.d d5_9) rfl rfl k) ?_
        refine g_metN (c_static B (hw _ (List.mem_of_getElem? (i := 71) rfl)) (hw _ (List.mem_of_getElem? (i := 72) rfl)) (hw _ (List.mem_of_getElem? (i := 29) rfl)) (hw _ (List.mem_of_getElem? (i := 73) rfl)) (by decide) rfl (lenOf pd_28Ljava2flang2fString3b29Z rfl) rfl (Nat.le_of_eq rfl) d5_10 rfl (argsL := [(.ref a1)]) (rest := []) (W := 0) (q := 13)) (n_isPrincipal_3 l Z a0 hw hEL a1 zc rv t c0 c1 c2 h0 n0 PS PX PO) (hw _ (List.mem_of_getElem? (i := 73) rfl)) (hw _ (List.mem_of_getElem? (i := 29) rfl)) (by decide) (by decide) (by decide) (by decide) ?_
        intro v22 h22 hz22 hQ22
        obtain ⟨rfl, rfl⟩ := hQ22
        by_cases hF0 : c0 = (64 : Int32)
        · rw [show prin [c0, c1, c2] = (1 : Int32) by simp [prin, hF0]]
          refine gs (mkF m 20 _ []) (fun T A t k => XS.ifYes A B.x rfl (pc0 := 13) (pc' := 20) rfl (B.d d5_13) rfl ((if0 _ _).trans (feq (by decide : ¬ ((1 : Int32) = (0 : Int32)))).2) (by decide) (by decide) k) ?_
          refine gs (mkF m 21 _ [(.int (0 : Int32))]) (fun T A t k => XS.iconst A B.x rfl (B.d d5_20) k) ?_
          exact g_retN (t := .boolean) B (by simp) d5_21 (by decide) (by decide) ⟨by show some (Value.int (0 : Int32)) = _; simp [loc, hE0, hE1, hE2, hF0], rfl⟩
        · by_cases hF1 : c1 = (64 : Int32)
          · rw [show prin [c0, c1, c2] = (1 : Int32) by simp [prin, hF0, hF1]]
            refine gs (mkF m 20 _ []) (fun T A t k => XS.ifYes A B.x rfl (pc0 := 13) (pc' := 20) rfl (B.d d5_13) rfl ((if0 _ _).trans (feq (by decide : ¬ ((1 : Int32) = (0 : Int32)))).2) (by decide) (by decide) k) ?_
            refine gs (mkF m 21 _ [(.int (0 : Int32))]) (fun T A t k => XS.iconst A B.x rfl (B.d d5_20) k) ?_
            exact g_retN (t := .boolean) B (by simp) d5_21 (by decide) (by decide) ⟨by show some (Value.int (0 : Int32)) = _; simp [loc, hE0, hE1, hE2, hF0, hF1], rfl⟩
          · by_cases hF2 : c2 = (64 : Int32)
            · rw [show prin [c0, c1, c2] = (1 : Int32) by simp [prin, hF0, hF1, hF2]]
              refine gs (mkF m 20 _ []) (fun T A t k => XS.ifYes A B.x rfl (pc0 := 13) (pc' := 20) rfl (B.d d5_13) rfl ((if0 _ _).trans (feq (by decide : ¬ ((1 : Int32) = (0 : Int32)))).2) (by decide) (by decide) k) ?_
              refine gs (mkF m 21 _ [(.int (0 : Int32))]) (fun T A t k => XS.iconst A B.x rfl (B.d d5_20) k) ?_
              exact g_retN (t := .boolean) B (by simp) d5_21 (by decide) (by decide) ⟨by show some (Value.int (0 : Int32)) = _; simp [loc, hE0, hE1, hE2, hF0, hF1, hF2], rfl⟩
            · rw [show prin [c0, c1, c2] = (0 : Int32) by simp [prin, hF0, hF1, hF2]]
              refine gs (mkF m 16 _ []) (fun T A t k => XS.ifNo A B.x rfl (B.d d5_13) rfl ((if0 _ _).trans (teq (by decide : (0 : Int32) = (0 : Int32))).2) k) ?_
              refine gs (mkF m 17 _ [(.int (1 : Int32))]) (fun T A t k => XS.iconst A B.x rfl (B.d d5_16) k) ?_
              refine gs (mkF m 21 _ [(.int (1 : Int32))]) (fun T A t k => XS.goto A B.x rfl (pc0 := 17) (pc' := 21) rfl (B.d d5_17) (by decide) (by decide) k) ?_
              exact g_retN (t := .boolean) B (by simp) d5_21 (by decide) (by decide) ⟨by show some (Value.int (1 : Int32)) = _; simp [loc, hE0, hE1, hE2, hF0, hF1, hF2], rfl⟩
set_option maxRecDepth 65536 in
set_option maxHeartbeats 40000000 in
theorem own_law (l : Launch) (Z : State) (a0 : Array Value) (hw : ∀ d ∈ tables_1, d.before a0 Z = true) (hEL : EW Z a0 consts_1) (p1 : Int32) (p2 : Int32) (p3 : Int32) (p4 : Int32) (zc : Int32) (rv : Value) (h0 : Heap) (n0 : Nat) (hn : @LE.le Nat _ n0 h0.size) (PX : Sts Z zc rv) (PO : Old Z n0 h0) :
    Met true Z consts_1 l x code maxLocals ret room_1 #[(.int p1), (.int p2), (.int p3), (.int p4)] h0 [] n0 (fun v h => v = some (.int 1)) := by
  refine Met.of (a0 := a0) (Ls := #[.val (.int p1), .val (.int p2), .val (.int p3), .val (.int p4), .unset, .unset, .unset, .unset, .unset, .unset]) (fun z => (nomatch z)) (plainFor_of_name pn_com_example_multi_domain_access_multidomainaccess_NamesIsLocalNamePinLaw) hEL (fun m => by first | (simp [entryFrame, mkF, argsToLocals, Value.category, maxLocals]; done) | rfl) ?_
  intro p e s m below meth c B hSf
  refine g_wt (fun Wt0 => ?_)
  obtain ⟨SC, hzc, SA, SH, SL, SF, rf⟩ := id PX
  refine gs (mkF m 1 _ [(.int p1)]) (fun T A t k => XS.iloadN A B.x rfl (B.d at_0) rfl k) ?_
  refine gs (mkF m 2 _ [(.int (3 : Int32)), (.int p1)]) (fun T A t k => XS.iconst A B.x rfl (B.d at_1) k) ?_
  refine gs (mkF m 3 _ [(.int (p1 &&& (3 : Int32)))]) (fun T A t k => XS.iand A B.x rfl (B.d at_2) rfl k) ?_
  refine gs (mkF m 5 #[.val (.int p1), .val (.int p2), .val (.int p3), .val (.int p4), .val (.int (p1 &&& (3 : Int32))), .unset, .unset, .unset, .unset, .unset] []) (fun T A t k => XS.istore A B.x rfl (B.d at_3) rfl (l' := #[.val (.int p1), .val (.int p2), .val (.int p3), .val (.int p4), .val (.int (p1 &&& (3 : Int32))), .unset, .unset, .unset, .unset, .unset]) rfl k) ?_
  generalize e_nn : (p1 &&& (3 : Int32)) = nn
  have h3 : nn = 0 ∨ nn = 1 ∨ nn = 2 ∨ nn = 3 := e_nn ▸ and3 p1
  refine gs (mkF m 6 _ [(.int p2)]) (fun T A t k => XS.iloadN A B.x rfl (B.d at_5) rfl k) ?_
  refine g_metP (c_static B (hw _ (List.mem_of_getElem? (i := 0) rfl)) (hw _ (List.mem_of_getElem? (i := 1) rfl)) (hw _ (List.mem_of_getElem? (i := 2) rfl)) (hw _ (List.mem_of_getElem? (i := 3) rfl)) (by decide) rfl (lenOf pd_28I29C rfl) rfl (Nat.le_of_eq rfl) at_6 rfl (argsL := [(.int p2)]) (rest := []) (W := 0) (q := 9)) (n_draw l Z a0 hw EW.nil (p2) h0 n0) (hw _ (List.mem_of_getElem? (i := 3) rfl)) (hw _ (List.mem_of_getElem? (i := 2) rfl)) (by decide) (by decide) (by decide) (by decide) (fun v h' q => ⟨[], by obtain ⟨c, -, -, e⟩ := q; rw [← e]; exact Keep.refl _ _, all0⟩) ?_
  intro v21 h21 hz21 hQ21
  obtain ⟨c0, rfl, hr0, rfl⟩ := hQ21
  refine gs (mkF m 11 #[.val (.int p1), .val (.int p2), .val (.int p3), .val (.int p4), .val (.int nn), .val (.int c0), .unset, .unset, .unset, .unset] []) (fun T A t k => XS.istore A B.x rfl (B.d at_9) rfl (l' := #[.val (.int p1), .val (.int p2), .val (.int p3), .val (.int p4), .val (.int nn), .val (.int c0), .unset, .unset, .unset, .unset]) rfl k) ?_
  refine gs (mkF m 12 _ [(.int p3)]) (fun T A t k => XS.iloadN A B.x rfl (B.d at_11) rfl k) ?_
  refine g_metP (c_static B (hw _ (List.mem_of_getElem? (i := 0) rfl)) (hw _ (List.mem_of_getElem? (i := 1) rfl)) (hw _ (List.mem_of_getElem? (i := 2) rfl)) (hw _ (List.mem_of_getElem? (i := 3) rfl)) (by decide) rfl (lenOf pd_28I29C rfl) rfl (Nat.le_of_eq rfl) at_12 rfl (argsL := [(.int p3)]) (rest := []) (W := 0) (q := 15)) (n_draw l Z a0 hw EW.nil (p3) h0 n0) (hw _ (List.mem_of_getElem? (i := 3) rfl)) (hw _ (List.mem_of_getElem? (i := 2) rfl)) (by decide) (by decide) (by decide) (by decide) (fun v h' q => ⟨[], by obtain ⟨c, -, -, e⟩ := q; rw [← e]; exact Keep.refl _ _, all0⟩) ?_
  intro v22 h22 hz22 hQ22
  obtain ⟨c1, rfl, hr1, rfl⟩ := hQ22
  refine gs (mkF m 17 #[.val (.int p1), .val (.int p2), .val (.int p3), .val (.int p4), .val (.int nn), .val (.int c0), .val (.int c1), .unset, .unset, .unset] []) (fun T A t k => XS.istore A B.x rfl (B.d at_15) rfl (l' := #[.val (.int p1), .val (.int p2), .val (.int p3), .val (.int p4), .val (.int nn), .val (.int c0), .val (.int c1), .unset, .unset, .unset]) rfl k) ?_
  refine gs (mkF m 18 _ [(.int p4)]) (fun T A t k => XS.iloadN A B.x rfl (B.d at_17) rfl k) ?_
  refine g_metP (c_static B (hw _ (List.mem_of_getElem? (i := 0) rfl)) (hw _ (List.mem_of_getElem? (i := 1) rfl)) (hw _ (List.mem_of_getElem? (i := 2) rfl)) (hw _ (List.mem_of_getElem? (i := 3) rfl)) (by decide) rfl (lenOf pd_28I29C rfl) rfl (Nat.le_of_eq rfl) at_18 rfl (argsL := [(.int p4)]) (rest := []) (W := 0) (q := 21)) (n_draw l Z a0 hw EW.nil (p4) h0 n0) (hw _ (List.mem_of_getElem? (i := 3) rfl)) (hw _ (List.mem_of_getElem? (i := 2) rfl)) (by decide) (by decide) (by decide) (by decide) (fun v h' q => ⟨[], by obtain ⟨c, -, -, e⟩ := q; rw [← e]; exact Keep.refl _ _, all0⟩) ?_
  intro v23 h23 hz23 hQ23
  obtain ⟨c2, rfl, hr2, rfl⟩ := hQ23
  refine gs (mkF m 23 #[.val (.int p1), .val (.int p2), .val (.int p3), .val (.int p4), .val (.int nn), .val (.int c0), .val (.int c1), .val (.int c2), .unset, .unset] []) (fun T A t k => XS.istore A B.x rfl (B.d at_21) rfl (l' := #[.val (.int p1), .val (.int p2), .val (.int p3), .val (.int p4), .val (.int nn), .val (.int c0), .val (.int c1), .val (.int c2), .unset, .unset]) rfl k) ?_
  clear e_nn; rcases h3 with rfl | rfl | rfl | rfl
  · refine gs (mkF m 25 _ [(.int (0 : Int32))]) (fun T A t k => XS.iload A B.x rfl (B.d at_23) rfl k) ?_
    refine gs (mkF m 28 _ []) (fun T A t k => XS.ifNo A B.x rfl (B.d at_25) rfl ((if0 _ _).trans (teq (by decide : (0 : Int32) = (0 : Int32))).2) k) ?_
    refine g_newO B (hw _ (List.mem_of_getElem? (i := 5) rfl)) (hw _ (List.mem_of_getElem? (i := 6) rfl)) (hw _ (List.mem_of_getElem? (i := 7) rfl)) at_28 (by decide) (by decide) (q := 31) rfl ?_
    intro h24 b24 g24 E24 S24 A24 D24
    refine g_wt (fun Wt25 => ?_)
    have z24 := E24.1; have y24 : @LT.lt Nat _ b24 h24.size := A24.lt
    have F24_value : Fld Z h24 b24 "java/lang/String" "value" "[B" .null := D24 (Or.inr (hw _ (List.mem_of_getElem? (i := 21) rfl))) (ty := (.array .byte)) (by decide)
    have F24_coder : Fld Z h24 b24 "java/lang/String" "coder" "B" (.int (0 : Int32)) := D24 (Or.inr (hw _ (List.mem_of_getElem? (i := 22) rfl))) (ty := .byte) (by decide)
    refine gs (mkF m 32 _ [(.ref b24), (.ref b24)]) (fun T A t k => XS.dup A B.x rfl (B.d at_31) rfl rfl k) ?_
    refine gs (mkF m 33 _ [(.int (0 : Int32)), (.ref b24), (.ref b24)]) (fun T A t k => XS.iconst A B.x rfl (B.d at_32) k) ?_
    refine g_newP B (hw _ (List.mem_of_getElem? (i := 8) rfl)) at_33 (by decide) (cap := 0) (by decide) (by decide) (by decide) (by decide) (q := 35) rfl ?_
    intro h26 b26 k26 g26 E26 S26 A26
    refine g_wt (fun Wt27 => ?_)
    have z26 := E26.1; have y26 : @LT.lt Nat _ b26 h26.size := A26.lt
    have V26 : Arv Z h26 b26 k26 .char (0 : Int32) [] (.int (0 : Int32)) := A26
    refine g_met hEL (c_init B rfl (hw _ (List.mem_of_getElem? (i := 9) rfl)) (hw _ (List.mem_of_getElem? (i := 10) rfl)) (hw _ (List.mem_of_getElem? (i := 11) rfl)) (by decide) rfl (lenOf pd_285bC29V rfl) rfl (Nat.le_of_eq rfl) at_35 rfl (argsL := [(.ref b26)]) (rest := [(.ref b24)]) (W := 1) (q := 38)) (w_init1 l Z a0 hw hEL b24 b26 k26 h26 n0 (A24.ext E26) (F24_value.ext E26) (F24_coder.ext E26) (by omega) V26) (hw _ (List.mem_of_getElem? (i := 11) rfl)) (hw _ (List.mem_of_getElem? (i := 7) rfl)) (by decide) (by decide) (by decide) (by decide) (fun x hx => by cases List.mem_singleton.mp hx; exact ⟨(Safe.ext E26 Wt25.2.2.1.1 S24), (A24.ext E26).lt⟩) ?_
    intro v28 h28 vm28 hZ28 C28 hQ28
    obtain ⟨rfl, K28, t28, X28⟩ := hQ28
    refine g_wt (fun Wt29 => ?_)
    have z28 := K28.1; have y28 := X28.lt; have x28 := X28.lt'
    refine gs (mkF m 40 #[.val (.int p1), .val (.int p2), .val (.int p3), .val (.int p4), .val (.int (0 : Int32)), .val (.int c0), .val (.int c1), .val (.int c2), .val (.ref b24), .unset] []) (fun T A t k => XS.astore A B.x rfl (B.d at_38) rfl rfl (l' := #[.val (.int p1), .val (.int p2), .val (.int p3), .val (.int p4), .val (.int (0 : Int32)), .val (.int c0), .val (.int c1), .val (.int c2), .val (.ref b24), .unset]) rfl k) ?_
    refine gs (mkF m 127 _ []) (fun T A t k => XS.goto A B.x rfl (pc0 := 40) (pc' := 127) rfl (B.d at_40) (by decide) (by decide) k) ?_
    refine gs (mkF m 129 _ [(.int (0 : Int32))]) (fun T A t k => XS.iload A B.x rfl (B.d at_127) rfl k) ?_
    refine gs (mkF m 130 _ [(.int (1 : Int32)), (.int (0 : Int32))]) (fun T A t k => XS.iconst A B.x rfl (B.d at_129) k) ?_
    refine gs (mkF m 141 _ []) (fun T A t k => XS.icmpYes A B.x rfl (pc0 := 130) (pc' := 141) rfl (B.d at_130) rfl (tlt (by decide : (0 : Int32) < (1 : Int32))).1 (by decide) (by decide) k) ?_
    refine gs (mkF m 143 _ [(.int (0 : Int32))]) (fun T A t k => XS.iload A B.x rfl (B.d at_141) rfl k) ?_
    refine gs (mkF m 144 _ [(.int (2 : Int32)), (.int (0 : Int32))]) (fun T A t k => XS.iconst A B.x rfl (B.d at_143) k) ?_
    refine gs (mkF m 155 _ []) (fun T A t k => XS.icmpYes A B.x rfl (pc0 := 144) (pc' := 155) rfl (B.d at_144) rfl (tlt (by decide : (0 : Int32) < (2 : Int32))).1 (by decide) (by decide) k) ?_
    refine gs (mkF m 157 _ [(.int (0 : Int32))]) (fun T A t k => XS.iload A B.x rfl (B.d at_155) rfl k) ?_
    refine gs (mkF m 158 _ [(.int (3 : Int32)), (.int (0 : Int32))]) (fun T A t k => XS.iconst A B.x rfl (B.d at_157) k) ?_
    refine gs (mkF m 169 _ []) (fun T A t k => XS.icmpYes A B.x rfl (pc0 := 158) (pc' := 169) rfl (B.d at_158) rfl (tlt (by decide : (0 : Int32) < (3 : Int32))).1 (by decide) (by decide) k) ?_
    refine gs (mkF m 170 _ [(.int (1 : Int32))]) (fun T A t k => XS.iconst A B.x rfl (B.d at_169) k) ?_
    refine gs (mkF m 174 _ [(.int (1 : Int32))]) (fun T A t k => XS.goto A B.x rfl (pc0 := 170) (pc' := 174) rfl (B.d at_170) (by decide) (by decide) k) ?_
    refine gs (mkF m 176 #[.val (.int p1), .val (.int p2), .val (.int p3), .val (.int p4), .val (.int (0 : Int32)), .val (.int c0), .val (.int c1), .val (.int c2), .val (.ref b24), .val (.int (1 : Int32))] []) (fun T A t k => XS.istore A B.x rfl (B.d at_174) rfl (l' := #[.val (.int p1), .val (.int p2), .val (.int p3), .val (.int p4), .val (.int (0 : Int32)), .val (.int c0), .val (.int c1), .val (.int c2), .val (.ref b24), .val (.int (1 : Int32))]) rfl k) ?_
    refine gs (mkF m 178 _ [(.ref b24)]) (fun T A t k => XS.aload A B.x rfl (B.d at_176) rfl rfl k) ?_
    refine g_metP (c_static B (hw _ (List.mem_of_getElem? (i := 27) rfl)) (hw _ (List.mem_of_getElem? (i := 28) rfl)) (hw _ (List.mem_of_getElem? (i := 29) rfl)) (hw _ (List.mem_of_getElem? (i := 30) rfl)) (by decide) rfl (lenOf pd_28Ljava2flang2fString3b29Z rfl) rfl (Nat.le_of_eq rfl) at_178 rfl (argsL := [(.ref b24)]) (rest := []) (W := 0) (q := 181)) (n_isLocalName_0 l Z a0 hw EW.nil b24 zc rv t28  h28 n0 X28 PX (((PO.ext E24).ext E26).keep K28 (allS (by omega) all0))) (hw _ (List.mem_of_getElem? (i := 30) rfl)) (hw _ (List.mem_of_getElem? (i := 29) rfl)) (by decide) (by decide) (by decide) (by decide) (fun v h' q => ⟨[], by rw [← q.2]; exact Keep.refl _ _, all0⟩) ?_
    intro v30 h30 hz30 hQ30
    obtain ⟨rfl, rfl⟩ := hQ30
    refine gs (mkF m 183 _ [(.int (1 : Int32)), (.int (loc ([] : List Int32)))]) (fun T A t k => XS.iload A B.x rfl (B.d at_181) rfl k) ?_
    have hloc : loc ([] : List Int32) = (1 : Int32) := by simp [loc]
    rw [hloc]
    refine gs (mkF m 186 _ []) (fun T A t k => XS.icmpNo A B.x rfl (B.d at_183) rfl (teq (by decide : (1 : Int32) = (1 : Int32))).2 k) ?_
    refine gs (mkF m 187 _ [(.int (1 : Int32))]) (fun T A t k => XS.iconst A B.x rfl (B.d at_186) k) ?_
    refine gs (mkF m 191 _ [(.int (1 : Int32))]) (fun T A t k => XS.goto A B.x rfl (pc0 := 187) (pc' := 191) rfl (B.d at_187) (by decide) (by decide) k) ?_
    exact g_retN (t := .boolean) B (by simp) at_191 (by decide) (by decide) rfl
  · refine gs (mkF m 25 _ [(.int (1 : Int32))]) (fun T A t k => XS.iload A B.x rfl (B.d at_23) rfl k) ?_
    refine gs (mkF m 43 _ []) (fun T A t k => XS.ifYes A B.x rfl (pc0 := 25) (pc' := 43) rfl (B.d at_25) rfl ((if0 _ _).trans (feq (by decide : ¬ ((1 : Int32) = (0 : Int32)))).2) (by decide) (by decide) k) ?_
    refine gs (mkF m 45 _ [(.int (1 : Int32))]) (fun T A t k => XS.iload A B.x rfl (B.d at_43) rfl k) ?_
    refine gs (mkF m 46 _ [(.int (1 : Int32)), (.int (1 : Int32))]) (fun T A t k => XS.iconst A B.x rfl (B.d at_45) k) ?_
    refine gs (mkF m 49 _ []) (fun T A t k => XS.icmpNo A B.x rfl (B.d at_46) rfl (teq (by decide : (1 : Int32) = (1 : Int32))).2 k) ?_
    refine g_newO B (hw _ (List.mem_of_getElem? (i := 5) rfl)) (hw _ (List.mem_of_getElem? (i := 6) rfl)) (hw _ (List.mem_of_getElem? (i := 7) rfl)) at_49 (by decide) (by decide) (q := 52) rfl ?_
    intro h31 b31 g31 E31 S31 A31 D31
    refine g_wt (fun Wt32 => ?_)
    have z31 := E31.1; have y31 : @LT.lt Nat _ b31 h31.size := A31.lt
    have F31_value : Fld Z h31 b31 "java/lang/String" "value" "[B" .null := D31 (Or.inr (hw _ (List.mem_of_getElem? (i := 21) rfl))) (ty := (.array .byte)) (by decide)
    have F31_coder : Fld Z h31 b31 "java/lang/String" "coder" "B" (.int (0 : Int32)) := D31 (Or.inr (hw _ (List.mem_of_getElem? (i := 22) rfl))) (ty := .byte) (by decide)
    refine gs (mkF m 53 _ [(.ref b31), (.ref b31)]) (fun T A t k => XS.dup A B.x rfl (B.d at_52) rfl rfl k) ?_
    refine gs (mkF m 54 _ [(.int (1 : Int32)), (.ref b31), (.ref b31)]) (fun T A t k => XS.iconst A B.x rfl (B.d at_53) k) ?_
    refine g_newP B (hw _ (List.mem_of_getElem? (i := 8) rfl)) at_54 (by decide) (cap := 1) (by decide) (by decide) (by decide) (by decide) (q := 56) rfl ?_
    intro h33 b33 k33 g33 E33 S33 A33
    refine g_wt (fun Wt34 => ?_)
    have z33 := E33.1; have y33 : @LT.lt Nat _ b33 h33.size := A33.lt
    have V33 : Arv Z h33 b33 k33 .char (1 : Int32) [(.int (0 : Int32))] (.int (0 : Int32)) := A33
    refine gs (mkF m 57 _ [(.ref b33), (.ref b33), (.ref b31), (.ref b31)]) (fun T A t k => XS.dup A B.x rfl (B.d at_56) rfl rfl k) ?_
    refine gs (mkF m 58 _ [(.int (0 : Int32)), (.ref b33), (.ref b33), (.ref b31), (.ref b31)]) (fun T A t k => XS.iconst A B.x rfl (B.d at_57) k) ?_
    refine gs (mkF m 60 _ [(.int c0), (.int (0 : Int32)), (.ref b33), (.ref b33), (.ref b31), (.ref b31)]) (fun T A t k => XS.iload A B.x rfl (B.d at_58) rfl k) ?_
    refine g_stC B V33 (x' := c0) (nar_ch hr0) ⟨by decide, by decide⟩ (i := 0) rfl (Nat.le_of_ble_eq_true rfl) at_60 (Safe.arv Wt34.1.alike V33 (by decide)) (by omega) (q := 61) rfl ?_
    intro h35 W35 A35
    refine g_wt (fun Wt36 => ?_)
    have z35 := W35.size
    have V35 : Arv Z h35 b33 k33 .char (1 : Int32) [(.int c0)] (.int (0 : Int32)) := A35
    refine g_metP (c_init B rfl (hw _ (List.mem_of_getElem? (i := 9) rfl)) (hw _ (List.mem_of_getElem? (i := 10) rfl)) (hw _ (List.mem_of_getElem? (i := 11) rfl)) (by decide) rfl (lenOf pd_285bC29V rfl) rfl (Nat.le_of_eq rfl) at_61 rfl (argsL := [(.ref b33)]) (rest := [(.ref b31)]) (W := 1) (q := 64)) (n_init1_1 l Z a0 hw EW.nil b31 b33 zc rv k33 c0 h35 n0 ((A31.ext E33).wr W35) ((F31_value.ext E33).other W35 (Or.inl (by omega : @Ne Nat b31 b33))) ((F31_coder.ext E33).other W35 (Or.inl (by omega : @Ne Nat b31 b33))) V35 (by omega) (by omega) (by omega) hr0 PX (((PO.ext E31).ext E33).wr W35 (by omega))) (hw _ (List.mem_of_getElem? (i := 11) rfl)) (hw _ (List.mem_of_getElem? (i := 7) rfl)) (by decide) (by decide) (by decide) (by decide) (fun v h' q => ⟨[b31], q.2.1, fun z hz => by cases List.mem_singleton.mp hz; exact (Safe.wr W35 S33 Wt34.2.2.1.1 (Safe.ext E33 Wt32.2.2.1.1 S31))⟩) ?_
    intro v37 h37 hz37 hQ37
    obtain ⟨rfl, K37, t37, g37, X37⟩ := hQ37
    refine g_wt (fun Wt38 => ?_)
    have z37 := K37.1; have y37 := X37.lt; have x37 := X37.lt'
    refine gs (mkF m 66 #[.val (.int p1), .val (.int p2), .val (.int p3), .val (.int p4), .val (.int (1 : Int32)), .val (.int c0), .val (.int c1), .val (.int c2), .val (.ref b31), .unset] []) (fun T A t k => XS.astore A B.x rfl (B.d at_64) rfl rfl (l' := #[.val (.int p1), .val (.int p2), .val (.int p3), .val (.int p4), .val (.int (1 : Int32)), .val (.int c0), .val (.int c1), .val (.int c2), .val (.ref b31), .unset]) rfl k) ?_
    refine gs (mkF m 127 _ []) (fun T A t k => XS.goto A B.x rfl (pc0 := 66) (pc' := 127) rfl (B.d at_66) (by decide) (by decide) k) ?_
    refine gs (mkF m 129 _ [(.int (1 : Int32))]) (fun T A t k => XS.iload A B.x rfl (B.d at_127) rfl k) ?_
    refine gs (mkF m 130 _ [(.int (1 : Int32)), (.int (1 : Int32))]) (fun T A t k => XS.iconst A B.x rfl (B.d at_129) k) ?_
    refine gs (mkF m 133 _ []) (fun T A t k => XS.icmpNo A B.x rfl (B.d at_130) rfl (flt (by decide : ¬ ((1 : Int32) < (1 : Int32)))).1 k) ?_
    refine gs (mkF m 135 _ [(.int c0)]) (fun T A t k => XS.iload A B.x rfl (B.d at_133) rfl k) ?_
    refine g_metP (c_static B (hw _ (List.mem_of_getElem? (i := 84) rfl)) (hw _ (List.mem_of_getElem? (i := 85) rfl)) (hw _ (List.mem_of_getElem? (i := 2) rfl)) (hw _ (List.mem_of_getElem? (i := 86) rfl)) (by decide) rfl (lenOf pd_28C29Z rfl) rfl (Nat.le_of_eq rfl) at_135 rfl (argsL := [(.int c0)]) (rest := []) (W := 0) (q := 138)) (n_plain l Z a0 hw EW.nil (c0) h37 n0) (hw _ (List.mem_of_getElem? (i := 86) rfl)) (hw _ (List.mem_of_getElem? (i := 2) rfl)) (by decide) (by decide) (by decide) (by decide) (fun v h' q => ⟨[], by rw [← q.2]; exact Keep.refl _ _, all0⟩) ?_
    intro v39 h39 hz39 hQ39
    obtain ⟨rfl, rfl⟩ := hQ39
    by_cases hb0 : (c0 = (46 : Int32) ∨ c0 = (64 : Int32))
    · rw [if_pos hb0]
      refine gs (mkF m 173 _ []) (fun T A t k => XS.ifYes A B.x rfl (pc0 := 138) (pc' := 173) rfl (B.d at_138) rfl ((if0 _ _).trans (teq (by decide : (0 : Int32) = (0 : Int32))).1) (by decide) (by decide) k) ?_
      refine gs (mkF m 174 _ [(.int (0 : Int32))]) (fun T A t k => XS.iconst A B.x rfl (B.d at_173) k) ?_
      refine gs (mkF m 176 #[.val (.int p1), .val (.int p2), .val (.int p3), .val (.int p4), .val (.int (1 : Int32)), .val (.int c0), .val (.int c1), .val (.int c2), .val (.ref b31), .val (.int (0 : Int32))] []) (fun T A t k => XS.istore A B.x rfl (B.d at_174) rfl (l' := #[.val (.int p1), .val (.int p2), .val (.int p3), .val (.int p4), .val (.int (1 : Int32)), .val (.int c0), .val (.int c1), .val (.int c2), .val (.ref b31), .val (.int (0 : Int32))]) rfl k) ?_
      refine gs (mkF m 178 _ [(.ref b31)]) (fun T A t k => XS.aload A B.x rfl (B.d at_176) rfl rfl k) ?_
      refine g_metP (c_static B (hw _ (List.mem_of_getElem? (i := 27) rfl)) (hw _ (List.mem_of_getElem? (i := 28) rfl)) (hw _ (List.mem_of_getElem? (i := 29) rfl)) (hw _ (List.mem_of_getElem? (i := 30) rfl)) (by decide) rfl (lenOf pd_28Ljava2flang2fString3b29Z rfl) rfl (Nat.le_of_eq rfl) at_178 rfl (argsL := [(.ref b31)]) (rest := []) (W := 0) (q := 181)) (n_isLocalName_1 l Z a0 hw EW.nil b31 zc rv t37 c0 h37 n0 X37 PX ((((PO.ext E31).ext E33).wr W35 (by omega)).keep K37 (allS (by omega) all0))) (hw _ (List.mem_of_getElem? (i := 30) rfl)) (hw _ (List.mem_of_getElem? (i := 29) rfl)) (by decide) (by decide) (by decide) (by decide) (fun v h' q => ⟨[], by rw [← q.2]; exact Keep.refl _ _, all0⟩) ?_
      intro v40 h40 hz40 hQ40
      obtain ⟨rfl, rfl⟩ := hQ40
      refine gs (mkF m 183 _ [(.int (0 : Int32)), (.int (loc [c0]))]) (fun T A t k => XS.iload A B.x rfl (B.d at_181) rfl k) ?_
      have hloc : loc [c0] = (0 : Int32) := by simp [loc, hb0]
      rw [hloc]
      refine gs (mkF m 186 _ []) (fun T A t k => XS.icmpNo A B.x rfl (B.d at_183) rfl (teq (by decide : (0 : Int32) = (0 : Int32))).2 k) ?_
      refine gs (mkF m 187 _ [(.int (1 : Int32))]) (fun T A t k => XS.iconst A B.x rfl (B.d at_186) k) ?_
      refine gs (mkF m 191 _ [(.int (1 : Int32))]) (fun T A t k => XS.goto A B.x rfl (pc0 := 187) (pc' := 191) rfl (B.d at_187) (by decide) (by decide) k) ?_
      exact g_retN (t := .boolean) B (by simp) at_191 (by decide) (by decide) rfl
    · rw [if_neg hb0]
      refine gs (mkF m 141 _ []) (fun T A t k => XS.ifNo A B.x rfl (B.d at_138) rfl ((if0 _ _).trans (feq (by decide : ¬ ((1 : Int32) = (0 : Int32)))).1) k) ?_
      refine gs (mkF m 143 _ [(.int (1 : Int32))]) (fun T A t k => XS.iload A B.x rfl (B.d at_141) rfl k) ?_
      refine gs (mkF m 144 _ [(.int (2 : Int32)), (.int (1 : Int32))]) (fun T A t k => XS.iconst A B.x rfl (B.d at_143) k) ?_
      refine gs (mkF m 155 _ []) (fun T A t k => XS.icmpYes A B.x rfl (pc0 := 144) (pc' := 155) rfl (B.d at_144) rfl (tlt (by decide : (1 : Int32) < (2 : Int32))).1 (by decide) (by decide) k) ?_
      refine gs (mkF m 157 _ [(.int (1 : Int32))]) (fun T A t k => XS.iload A B.x rfl (B.d at_155) rfl k) ?_
      refine gs (mkF m 158 _ [(.int (3 : Int32)), (.int (1 : Int32))]) (fun T A t k => XS.iconst A B.x rfl (B.d at_157) k) ?_
      refine gs (mkF m 169 _ []) (fun T A t k => XS.icmpYes A B.x rfl (pc0 := 158) (pc' := 169) rfl (B.d at_158) rfl (tlt (by decide : (1 : Int32) < (3 : Int32))).1 (by decide) (by decide) k) ?_
      refine gs (mkF m 170 _ [(.int (1 : Int32))]) (fun T A t k => XS.iconst A B.x rfl (B.d at_169) k) ?_
      refine gs (mkF m 174 _ [(.int (1 : Int32))]) (fun T A t k => XS.goto A B.x rfl (pc0 := 170) (pc' := 174) rfl (B.d at_170) (by decide) (by decide) k) ?_
      refine gs (mkF m 176 #[.val (.int p1), .val (.int p2), .val (.int p3), .val (.int p4), .val (.int (1 : Int32)), .val (.int c0), .val (.int c1), .val (.int c2), .val (.ref b31), .val (.int (1 : Int32))] []) (fun T A t k => XS.istore A B.x rfl (B.d at_174) rfl (l' := #[.val (.int p1), .val (.int p2), .val (.int p3), .val (.int p4), .val (.int (1 : Int32)), .val (.int c0), .val (.int c1), .val (.int c2), .val (.ref b31), .val (.int (1 : Int32))]) rfl k) ?_
      refine gs (mkF m 178 _ [(.ref b31)]) (fun T A t k => XS.aload A B.x rfl (B.d at_176) rfl rfl k) ?_
      refine g_metP (c_static B (hw _ (List.mem_of_getElem? (i := 27) rfl)) (hw _ (List.mem_of_getElem? (i := 28) rfl)) (hw _ (List.mem_of_getElem? (i := 29) rfl)) (hw _ (List.mem_of_getElem? (i := 30) rfl)) (by decide) rfl (lenOf pd_28Ljava2flang2fString3b29Z rfl) rfl (Nat.le_of_eq rfl) at_178 rfl (argsL := [(.ref b31)]) (rest := []) (W := 0) (q := 181)) (n_isLocalName_1 l Z a0 hw EW.nil b31 zc rv t37 c0 h37 n0 X37 PX ((((PO.ext E31).ext E33).wr W35 (by omega)).keep K37 (allS (by omega) all0))) (hw _ (List.mem_of_getElem? (i := 30) rfl)) (hw _ (List.mem_of_getElem? (i := 29) rfl)) (by decide) (by decide) (by decide) (by decide) (fun v h' q => ⟨[], by rw [← q.2]; exact Keep.refl _ _, all0⟩) ?_
      intro v41 h41 hz41 hQ41
      obtain ⟨rfl, rfl⟩ := hQ41
      refine gs (mkF m 183 _ [(.int (1 : Int32)), (.int (loc [c0]))]) (fun T A t k => XS.iload A B.x rfl (B.d at_181) rfl k) ?_
      have hloc : loc [c0] = (1 : Int32) := by simp [loc, hb0]
      rw [hloc]
      refine gs (mkF m 186 _ []) (fun T A t k => XS.icmpNo A B.x rfl (B.d at_183) rfl (teq (by decide : (1 : Int32) = (1 : Int32))).2 k) ?_
      refine gs (mkF m 187 _ [(.int (1 : Int32))]) (fun T A t k => XS.iconst A B.x rfl (B.d at_186) k) ?_
      refine gs (mkF m 191 _ [(.int (1 : Int32))]) (fun T A t k => XS.goto A B.x rfl (pc0 := 187) (pc' := 191) rfl (B.d at_187) (by decide) (by decide) k) ?_
      exact g_retN (t := .boolean) B (by simp) at_191 (by decide) (by decide) rfl
  · refine gs (mkF m 25 _ [(.int (2 : Int32))]) (fun T A t k => XS.iload A B.x rfl (B.d at_23) rfl k) ?_
    refine gs (mkF m 43 _ []) (fun T A t k => XS.ifYes A B.x rfl (pc0 := 25) (pc' := 43) rfl (B.d at_25) rfl ((if0 _ _).trans (feq (by decide : ¬ ((2 : Int32) = (0 : Int32)))).2) (by decide) (by decide) k) ?_
    refine gs (mkF m 45 _ [(.int (2 : Int32))]) (fun T A t k => XS.iload A B.x rfl (B.d at_43) rfl k) ?_
    refine gs (mkF m 46 _ [(.int (1 : Int32)), (.int (2 : Int32))]) (fun T A t k => XS.iconst A B.x rfl (B.d at_45) k) ?_
    refine gs (mkF m 69 _ []) (fun T A t k => XS.icmpYes A B.x rfl (pc0 := 46) (pc' := 69) rfl (B.d at_46) rfl (feq (by decide : ¬ ((2 : Int32) = (1 : Int32)))).2 (by decide) (by decide) k) ?_
    refine gs (mkF m 71 _ [(.int (2 : Int32))]) (fun T A t k => XS.iload A B.x rfl (B.d at_69) rfl k) ?_
    refine gs (mkF m 72 _ [(.int (2 : Int32)), (.int (2 : Int32))]) (fun T A t k => XS.iconst A B.x rfl (B.d at_71) k) ?_
    refine gs (mkF m 75 _ []) (fun T A t k => XS.icmpNo A B.x rfl (B.d at_72) rfl (teq (by decide : (2 : Int32) = (2 : Int32))).2 k) ?_
    refine g_newO B (hw _ (List.mem_of_getElem? (i := 5) rfl)) (hw _ (List.mem_of_getElem? (i := 6) rfl)) (hw _ (List.mem_of_getElem? (i := 7) rfl)) at_75 (by decide) (by decide) (q := 78) rfl ?_
    intro h42 b42 g42 E42 S42 A42 D42
    refine g_wt (fun Wt43 => ?_)
    have z42 := E42.1; have y42 : @LT.lt Nat _ b42 h42.size := A42.lt
    have F42_value : Fld Z h42 b42 "java/lang/String" "value" "[B" .null := D42 (Or.inr (hw _ (List.mem_of_getElem? (i := 21) rfl))) (ty := (.array .byte)) (by decide)
    have F42_coder : Fld Z h42 b42 "java/lang/String" "coder" "B" (.int (0 : Int32)) := D42 (Or.inr (hw _ (List.mem_of_getElem? (i := 22) rfl))) (ty := .byte) (by decide)
    refine gs (mkF m 79 _ [(.ref b42), (.ref b42)]) (fun T A t k => XS.dup A B.x rfl (B.d at_78) rfl rfl k) ?_
    refine gs (mkF m 80 _ [(.int (2 : Int32)), (.ref b42), (.ref b42)]) (fun T A t k => XS.iconst A B.x rfl (B.d at_79) k) ?_
    refine g_newP B (hw _ (List.mem_of_getElem? (i := 8) rfl)) at_80 (by decide) (cap := 2) (by decide) (by decide) (by decide) (by decide) (q := 82) rfl ?_
    intro h44 b44 k44 g44 E44 S44 A44
    refine g_wt (fun Wt45 => ?_)
    have z44 := E44.1; have y44 : @LT.lt Nat _ b44 h44.size := A44.lt
    have V44 : Arv Z h44 b44 k44 .char (2 : Int32) [(.int (0 : Int32)), (.int (0 : Int32))] (.int (0 : Int32)) := A44
    refine gs (mkF m 83 _ [(.ref b44), (.ref b44), (.ref b42), (.ref b42)]) (fun T A t k => XS.dup A B.x rfl (B.d at_82) rfl rfl k) ?_
    refine gs (mkF m 84 _ [(.int (0 : Int32)), (.ref b44), (.ref b44), (.ref b42), (.ref b42)]) (fun T A t k => XS.iconst A B.x rfl (B.d at_83) k) ?_
    refine gs (mkF m 86 _ [(.int c0), (.int (0 : Int32)), (.ref b44), (.ref b44), (.ref b42), (.ref b42)]) (fun T A t k => XS.iload A B.x rfl (B.d at_84) rfl k) ?_
    refine g_stC B V44 (x' := c0) (nar_ch hr0) ⟨by decide, by decide⟩ (i := 0) rfl (Nat.le_of_ble_eq_true rfl) at_86 (Safe.arv Wt45.1.alike V44 (by decide)) (by omega) (q := 87) rfl ?_
    intro h46 W46 A46
    refine g_wt (fun Wt47 => ?_)
    have z46 := W46.size
    have V46 : Arv Z h46 b44 k44 .char (2 : Int32) [(.int c0), (.int (0 : Int32))] (.int (0 : Int32)) := A46
    refine gs (mkF m 88 _ [(.ref b44), (.ref b44), (.ref b42), (.ref b42)]) (fun T A t k => XS.dup A B.x rfl (B.d at_87) rfl rfl k) ?_
    refine gs (mkF m 89 _ [(.int (1 : Int32)), (.ref b44), (.ref b44), (.ref b42), (.ref b42)]) (fun T A t k => XS.iconst A B.x rfl (B.d at_88) k) ?_
    refine gs (mkF m 91 _ [(.int c1), (.int (1 : Int32)), (.ref b44), (.ref b44), (.ref b42), (.ref b42)]) (fun T A t k => XS.iload A B.x rfl (B.d at_89) rfl k) ?_
    refine g_stC B V46 (x' := c1) (nar_ch hr1) ⟨by decide, by decide⟩ (i := 1) rfl (Nat.le_of_ble_eq_true rfl) at_91 (Safe.arv Wt47.1.alike V46 (by decide)) (by omega) (q := 92) rfl ?_
    intro h48 W48 A48
    refine g_wt (fun Wt49 => ?_)
    have z48 := W48.size
    have V48 : Arv Z h48 b44 k44 .char (2 : Int32) [(.int c0), (.int c1)] (.int (0 : Int32)) := A48
    refine g_metP (c_init B rfl (hw _ (List.mem_of_getElem? (i := 9) rfl)) (hw _ (List.mem_of_getElem? (i := 10) rfl)) (hw _ (List.mem_of_getElem? (i := 11) rfl)) (by decide) rfl (lenOf pd_285bC29V rfl) rfl (Nat.le_of_eq rfl) at_92 rfl (argsL := [(.ref b44)]) (rest := [(.ref b42)]) (W := 1) (q := 95)) (n_init1_2 l Z a0 hw EW.nil b42 b44 zc rv k44 c0 c1 h48 n0 (((A42.ext E44).wr W46).wr W48) (((F42_value.ext E44).other W46 (Or.inl (by omega : @Ne Nat b42 b44))).other W48 (Or.inl (by omega : @Ne Nat b42 b44))) (((F42_coder.ext E44).other W46 (Or.inl (by omega : @Ne Nat b42 b44))).other W48 (Or.inl (by omega : @Ne Nat b42 b44))) V48 (by omega) (by omega) (by omega) hr0 hr1 PX ((((PO.ext E42).ext E44).wr W46 (by omega)).wr W48 (by omega))) (hw _ (List.mem_of_getElem? (i := 11) rfl)) (hw _ (List.mem_of_getElem? (i := 7) rfl)) (by decide) (by decide) (by decide) (by decide) (fun v h' q => ⟨[b42], q.2.1, fun z hz => by cases List.mem_singleton.mp hz; exact (Safe.wr W48 (Safe.wr W46 S44 Wt45.2.2.1.1 S44) Wt47.2.2.1.1 (Safe.wr W46 S44 Wt45.2.2.1.1 (Safe.ext E44 Wt43.2.2.1.1 S42)))⟩) ?_
    intro v50 h50 hz50 hQ50
    obtain ⟨rfl, K50, t50, g50, X50⟩ := hQ50
    refine g_wt (fun Wt51 => ?_)
    have z50 := K50.1; have y50 := X50.lt; have x50 := X50.lt'
    refine gs (mkF m 97 #[.val (.int p1), .val (.int p2), .val (.int p3), .val (.int p4), .val (.int (2 : Int32)), .val (.int c0), .val (.int c1), .val (.int c2), .val (.ref b42), .unset] []) (fun T A t k => XS.astore A B.x rfl (B.d at_95) rfl rfl (l' := #[.val (.int p1), .val (.int p2), .val (.int p3), .val (.int p4), .val (.int (2 : Int32)), .val (.int c0), .val (.int c1), .val (.int c2), .val (.ref b42), .unset]) rfl k) ?_
    refine gs (mkF m 127 _ []) (fun T A t k => XS.goto A B.x rfl (pc0 := 97) (pc' := 127) rfl (B.d at_97) (by decide) (by decide) k) ?_
    refine gs (mkF m 129 _ [(.int (2 : Int32))]) (fun T A t k => XS.iload A B.x rfl (B.d at_127) rfl k) ?_
    refine gs (mkF m 130 _ [(.int (1 : Int32)), (.int (2 : Int32))]) (fun T A t k => XS.iconst A B.x rfl (B.d at_129) k) ?_
    refine gs (mkF m 133 _ []) (fun T A t k => XS.icmpNo A B.x rfl (B.d at_130) rfl (flt (by decide : ¬ ((2 : Int32) < (1 : Int32)))).1 k) ?_
    refine gs (mkF m 135 _ [(.int c0)]) (fun T A t k => XS.iload A B.x rfl (B.d at_133) rfl k) ?_
    refine g_metP (c_static B (hw _ (List.mem_of_getElem? (i := 84) rfl)) (hw _ (List.mem_of_getElem? (i := 85) rfl)) (hw _ (List.mem_of_getElem? (i := 2) rfl)) (hw _ (List.mem_of_getElem? (i := 86) rfl)) (by decide) rfl (lenOf pd_28C29Z rfl) rfl (Nat.le_of_eq rfl) at_135 rfl (argsL := [(.int c0)]) (rest := []) (W := 0) (q := 138)) (n_plain l Z a0 hw EW.nil (c0) h50 n0) (hw _ (List.mem_of_getElem? (i := 86) rfl)) (hw _ (List.mem_of_getElem? (i := 2) rfl)) (by decide) (by decide) (by decide) (by decide) (fun v h' q => ⟨[], by rw [← q.2]; exact Keep.refl _ _, all0⟩) ?_
    intro v52 h52 hz52 hQ52
    obtain ⟨rfl, rfl⟩ := hQ52
    by_cases hb0 : (c0 = (46 : Int32) ∨ c0 = (64 : Int32))
    · rw [if_pos hb0]
      refine gs (mkF m 173 _ []) (fun T A t k => XS.ifYes A B.x rfl (pc0 := 138) (pc' := 173) rfl (B.d at_138) rfl ((if0 _ _).trans (teq (by decide : (0 : Int32) = (0 : Int32))).1) (by decide) (by decide) k) ?_
      refine gs (mkF m 174 _ [(.int (0 : Int32))]) (fun T A t k => XS.iconst A B.x rfl (B.d at_173) k) ?_
      refine gs (mkF m 176 #[.val (.int p1), .val (.int p2), .val (.int p3), .val (.int p4), .val (.int (2 : Int32)), .val (.int c0), .val (.int c1), .val (.int c2), .val (.ref b42), .val (.int (0 : Int32))] []) (fun T A t k => XS.istore A B.x rfl (B.d at_174) rfl (l' := #[.val (.int p1), .val (.int p2), .val (.int p3), .val (.int p4), .val (.int (2 : Int32)), .val (.int c0), .val (.int c1), .val (.int c2), .val (.ref b42), .val (.int (0 : Int32))]) rfl k) ?_
      refine gs (mkF m 178 _ [(.ref b42)]) (fun T A t k => XS.aload A B.x rfl (B.d at_176) rfl rfl k) ?_
      refine g_metP (c_static B (hw _ (List.mem_of_getElem? (i := 27) rfl)) (hw _ (List.mem_of_getElem? (i := 28) rfl)) (hw _ (List.mem_of_getElem? (i := 29) rfl)) (hw _ (List.mem_of_getElem? (i := 30) rfl)) (by decide) rfl (lenOf pd_28Ljava2flang2fString3b29Z rfl) rfl (Nat.le_of_eq rfl) at_178 rfl (argsL := [(.ref b42)]) (rest := []) (W := 0) (q := 181)) (n_isLocalName_2 l Z a0 hw EW.nil b42 zc rv t50 c0 c1 h50 n0 X50 PX (((((PO.ext E42).ext E44).wr W46 (by omega)).wr W48 (by omega)).keep K50 (allS (by omega) all0))) (hw _ (List.mem_of_getElem? (i := 30) rfl)) (hw _ (List.mem_of_getElem? (i := 29) rfl)) (by decide) (by decide) (by decide) (by decide) (fun v h' q => ⟨[], by rw [← q.2]; exact Keep.refl _ _, all0⟩) ?_
      intro v53 h53 hz53 hQ53
      obtain ⟨rfl, rfl⟩ := hQ53
      refine gs (mkF m 183 _ [(.int (0 : Int32)), (.int (loc [c0, c1]))]) (fun T A t k => XS.iload A B.x rfl (B.d at_181) rfl k) ?_
      have hloc : loc [c0, c1] = (0 : Int32) := by simp [loc, hb0]
      rw [hloc]
      refine gs (mkF m 186 _ []) (fun T A t k => XS.icmpNo A B.x rfl (B.d at_183) rfl (teq (by decide : (0 : Int32) = (0 : Int32))).2 k) ?_
      refine gs (mkF m 187 _ [(.int (1 : Int32))]) (fun T A t k => XS.iconst A B.x rfl (B.d at_186) k) ?_
      refine gs (mkF m 191 _ [(.int (1 : Int32))]) (fun T A t k => XS.goto A B.x rfl (pc0 := 187) (pc' := 191) rfl (B.d at_187) (by decide) (by decide) k) ?_
      exact g_retN (t := .boolean) B (by simp) at_191 (by decide) (by decide) rfl
    · rw [if_neg hb0]
      refine gs (mkF m 141 _ []) (fun T A t k => XS.ifNo A B.x rfl (B.d at_138) rfl ((if0 _ _).trans (feq (by decide : ¬ ((1 : Int32) = (0 : Int32)))).1) k) ?_
      refine gs (mkF m 143 _ [(.int (2 : Int32))]) (fun T A t k => XS.iload A B.x rfl (B.d at_141) rfl k) ?_
      refine gs (mkF m 144 _ [(.int (2 : Int32)), (.int (2 : Int32))]) (fun T A t k => XS.iconst A B.x rfl (B.d at_143) k) ?_
      refine gs (mkF m 147 _ []) (fun T A t k => XS.icmpNo A B.x rfl (B.d at_144) rfl (flt (by decide : ¬ ((2 : Int32) < (2 : Int32)))).1 k) ?_
      refine gs (mkF m 149 _ [(.int c1)]) (fun T A t k => XS.iload A B.x rfl (B.d at_147) rfl k) ?_
      refine g_metP (c_static B (hw _ (List.mem_of_getElem? (i := 84) rfl)) (hw _ (List.mem_of_getElem? (i := 85) rfl)) (hw _ (List.mem_of_getElem? (i := 2) rfl)) (hw _ (List.mem_of_getElem? (i := 86) rfl)) (by decide) rfl (lenOf pd_28C29Z rfl) rfl (Nat.le_of_eq rfl) at_149 rfl (argsL := [(.int c1)]) (rest := []) (W := 0) (q := 152)) (n_plain l Z a0 hw EW.nil (c1) h50 n0) (hw _ (List.mem_of_getElem? (i := 86) rfl)) (hw _ (List.mem_of_getElem? (i := 2) rfl)) (by decide) (by decide) (by decide) (by decide) (fun v h' q => ⟨[], by rw [← q.2]; exact Keep.refl _ _, all0⟩) ?_
      intro v54 h54 hz54 hQ54
      obtain ⟨rfl, rfl⟩ := hQ54
      by_cases hb1 : (c1 = (46 : Int32) ∨ c1 = (64 : Int32))
      · rw [if_pos hb1]
        refine gs (mkF m 173 _ []) (fun T A t k => XS.ifYes A B.x rfl (pc0 := 152) (pc' := 173) rfl (B.d at_152) rfl ((if0 _ _).trans (teq (by decide : (0 : Int32) = (0 : Int32))).1) (by decide) (by decide) k) ?_
        refine gs (mkF m 174 _ [(.int (0 : Int32))]) (fun T A t k => XS.iconst A B.x rfl (B.d at_173) k) ?_
        refine gs (mkF m 176 #[.val (.int p1), .val (.int p2), .val (.int p3), .val (.int p4), .val (.int (2 : Int32)), .val (.int c0), .val (.int c1), .val (.int c2), .val (.ref b42), .val (.int (0 : Int32))] []) (fun T A t k => XS.istore A B.x rfl (B.d at_174) rfl (l' := #[.val (.int p1), .val (.int p2), .val (.int p3), .val (.int p4), .val (.int (2 : Int32)), .val (.int c0), .val (.int c1), .val (.int c2), .val (.ref b42), .val (.int (0 : Int32))]) rfl k) ?_
        refine gs (mkF m 178 _ [(.ref b42)]) (fun T A t k => XS.aload A B.x rfl (B.d at_176) rfl rfl k) ?_
        refine g_metP (c_static B (hw _ (List.mem_of_getElem? (i := 27) rfl)) (hw _ (List.mem_of_getElem? (i := 28) rfl)) (hw _ (List.mem_of_getElem? (i := 29) rfl)) (hw _ (List.mem_of_getElem? (i := 30) rfl)) (by decide) rfl (lenOf pd_28Ljava2flang2fString3b29Z rfl) rfl (Nat.le_of_eq rfl) at_178 rfl (argsL := [(.ref b42)]) (rest := []) (W := 0) (q := 181)) (n_isLocalName_2 l Z a0 hw EW.nil b42 zc rv t50 c0 c1 h50 n0 X50 PX (((((PO.ext E42).ext E44).wr W46 (by omega)).wr W48 (by omega)).keep K50 (allS (by omega) all0))) (hw _ (List.mem_of_getElem? (i := 30) rfl)) (hw _ (List.mem_of_getElem? (i := 29) rfl)) (by decide) (by decide) (by decide) (by decide) (fun v h' q => ⟨[], by rw [← q.2]; exact Keep.refl _ _, all0⟩) ?_
        intro v55 h55 hz55 hQ55
        obtain ⟨rfl, rfl⟩ := hQ55
        refine gs (mkF m 183 _ [(.int (0 : Int32)), (.int (loc [c0, c1]))]) (fun T A t k => XS.iload A B.x rfl (B.d at_181) rfl k) ?_
        have hloc : loc [c0, c1] = (0 : Int32) := by simp [loc, hb0, hb1]
        rw [hloc]
        refine gs (mkF m 186 _ []) (fun T A t k => XS.icmpNo A B.x rfl (B.d at_183) rfl (teq (by decide : (0 : Int32) = (0 : Int32))).2 k) ?_
        refine gs (mkF m 187 _ [(.int (1 : Int32))]) (fun T A t k => XS.iconst A B.x rfl (B.d at_186) k) ?_
        refine gs (mkF m 191 _ [(.int (1 : Int32))]) (fun T A t k => XS.goto A B.x rfl (pc0 := 187) (pc' := 191) rfl (B.d at_187) (by decide) (by decide) k) ?_
        exact g_retN (t := .boolean) B (by simp) at_191 (by decide) (by decide) rfl
      · rw [if_neg hb1]
        refine gs (mkF m 155 _ []) (fun T A t k => XS.ifNo A B.x rfl (B.d at_152) rfl ((if0 _ _).trans (feq (by decide : ¬ ((1 : Int32) = (0 : Int32)))).1) k) ?_
        refine gs (mkF m 157 _ [(.int (2 : Int32))]) (fun T A t k => XS.iload A B.x rfl (B.d at_155) rfl k) ?_
        refine gs (mkF m 158 _ [(.int (3 : Int32)), (.int (2 : Int32))]) (fun T A t k => XS.iconst A B.x rfl (B.d at_157) k) ?_
        refine gs (mkF m 169 _ []) (fun T A t k => XS.icmpYes A B.x rfl (pc0 := 158) (pc' := 169) rfl (B.d at_158) rfl (tlt (by decide : (2 : Int32) < (3 : Int32))).1 (by decide) (by decide) k) ?_
        refine gs (mkF m 170 _ [(.int (1 : Int32))]) (fun T A t k => XS.iconst A B.x rfl (B.d at_169) k) ?_
        refine gs (mkF m 174 _ [(.int (1 : Int32))]) (fun T A t k => XS.goto A B.x rfl (pc0 := 170) (pc' := 174) rfl (B.d at_170) (by decide) (by decide) k) ?_
        refine gs (mkF m 176 #[.val (.int p1), .val (.int p2), .val (.int p3), .val (.int p4), .val (.int (2 : Int32)), .val (.int c0), .val (.int c1), .val (.int c2), .val (.ref b42), .val (.int (1 : Int32))] []) (fun T A t k => XS.istore A B.x rfl (B.d at_174) rfl (l' := #[.val (.int p1), .val (.int p2), .val (.int p3), .val (.int p4), .val (.int (2 : Int32)), .val (.int c0), .val (.int c1), .val (.int c2), .val (.ref b42), .val (.int (1 : Int32))]) rfl k) ?_
        refine gs (mkF m 178 _ [(.ref b42)]) (fun T A t k => XS.aload A B.x rfl (B.d at_176) rfl rfl k) ?_
        refine g_metP (c_static B (hw _ (List.mem_of_getElem? (i := 27) rfl)) (hw _ (List.mem_of_getElem? (i := 28) rfl)) (hw _ (List.mem_of_getElem? (i := 29) rfl)) (hw _ (List.mem_of_getElem? (i := 30) rfl)) (by decide) rfl (lenOf pd_28Ljava2flang2fString3b29Z rfl) rfl (Nat.le_of_eq rfl) at_178 rfl (argsL := [(.ref b42)]) (rest := []) (W := 0) (q := 181)) (n_isLocalName_2 l Z a0 hw EW.nil b42 zc rv t50 c0 c1 h50 n0 X50 PX (((((PO.ext E42).ext E44).wr W46 (by omega)).wr W48 (by omega)).keep K50 (allS (by omega) all0))) (hw _ (List.mem_of_getElem? (i := 30) rfl)) (hw _ (List.mem_of_getElem? (i := 29) rfl)) (by decide) (by decide) (by decide) (by decide) (fun v h' q => ⟨[], by rw [← q.2]; exact Keep.refl _ _, all0⟩) ?_
        intro v56 h56 hz56 hQ56
        obtain ⟨rfl, rfl⟩ := hQ56
        refine gs (mkF m 183 _ [(.int (1 : Int32)), (.int (loc [c0, c1]))]) (fun T A t k => XS.iload A B.x rfl (B.d at_181) rfl k) ?_
        have hloc : loc [c0, c1] = (1 : Int32) := by simp [loc, hb0, hb1]
        rw [hloc]
        refine gs (mkF m 186 _ []) (fun T A t k => XS.icmpNo A B.x rfl (B.d at_183) rfl (teq (by decide : (1 : Int32) = (1 : Int32))).2 k) ?_
        refine gs (mkF m 187 _ [(.int (1 : Int32))]) (fun T A t k => XS.iconst A B.x rfl (B.d at_186) k) ?_
        refine gs (mkF m 191 _ [(.int (1 : Int32))]) (fun T A t k => XS.goto A B.x rfl (pc0 := 187) (pc' := 191) rfl (B.d at_187) (by decide) (by decide) k) ?_
        exact g_retN (t := .boolean) B (by simp) at_191 (by decide) (by decide) rfl
  · refine gs (mkF m 25 _ [(.int (3 : Int32))]) (fun T A t k => XS.iload A B.x rfl (B.d at_23) rfl k) ?_
    refine gs (mkF m 43 _ []) (fun T A t k => XS.ifYes A B.x rfl (pc0 := 25) (pc' := 43) rfl (B.d at_25) rfl ((if0 _ _).trans (feq (by decide : ¬ ((3 : Int32) = (0 : Int32)))).2) (by decide) (by decide) k) ?_
    refine gs (mkF m 45 _ [(.int (3 : Int32))]) (fun T A t k => XS.iload A B.x rfl (B.d at_43) rfl k) ?_
    refine gs (mkF m 46 _ [(.int (1 : Int32)), (.int (3 : Int32))]) (fun T A t k => XS.iconst A B.x rfl (B.d at_45) k) ?_
    refine gs (mkF m 69 _ []) (fun T A t k => XS.icmpYes A B.x rfl (pc0 := 46) (pc' := 69) rfl (B.d at_46) rfl (feq (by decide : ¬ ((3 : Int32) = (1 : Int32)))).2 (by decide) (by decide) k) ?_
    refine gs (mkF m 71 _ [(.int (3 : Int32))]) (fun T A t k => XS.iload A B.x rfl (B.d at_69) rfl k) ?_
    refine gs (mkF m 72 _ [(.int (2 : Int32)), (.int (3 : Int32))]) (fun T A t k => XS.iconst A B.x rfl (B.d at_71) k) ?_
    refine gs (mkF m 100 _ []) (fun T A t k => XS.icmpYes A B.x rfl (pc0 := 72) (pc' := 100) rfl (B.d at_72) rfl (feq (by decide : ¬ ((3 : Int32) = (2 : Int32)))).2 (by decide) (by decide) k) ?_
    refine g_newO B (hw _ (List.mem_of_getElem? (i := 5) rfl)) (hw _ (List.mem_of_getElem? (i := 6) rfl)) (hw _ (List.mem_of_getElem? (i := 7) rfl)) at_100 (by decide) (by decide) (q := 103) rfl ?_
    intro h57 b57 g57 E57 S57 A57 D57
    refine g_wt (fun Wt58 => ?_)
    have z57 := E57.1; have y57 : @LT.lt Nat _ b57 h57.size := A57.lt
    have F57_value : Fld Z h57 b57 "java/lang/String" "value" "[B" .null := D57 (Or.inr (hw _ (List.mem_of_getElem? (i := 21) rfl))) (ty := (.array .byte)) (by decide)
    have F57_coder : Fld Z h57 b57 "java/lang/String" "coder" "B" (.int (0 : Int32)) := D57 (Or.inr (hw _ (List.mem_of_getElem? (i := 22) rfl))) (ty := .byte) (by decide)
    refine gs (mkF m 104 _ [(.ref b57), (.ref b57)]) (fun T A t k => XS.dup A B.x rfl (B.d at_103) rfl rfl k) ?_
    refine gs (mkF m 105 _ [(.int (3 : Int32)), (.ref b57), (.ref b57)]) (fun T A t k => XS.iconst A B.x rfl (B.d at_104) k) ?_
    refine g_newP B (hw _ (List.mem_of_getElem? (i := 8) rfl)) at_105 (by decide) (cap := 3) (by decide) (by decide) (by decide) (by decide) (q := 107) rfl ?_
    intro h59 b59 k59 g59 E59 S59 A59
    refine g_wt (fun Wt60 => ?_)
    have z59 := E59.1; have y59 : @LT.lt Nat _ b59 h59.size := A59.lt
    have V59 : Arv Z h59 b59 k59 .char (3 : Int32) [(.int (0 : Int32)), (.int (0 : Int32)), (.int (0 : Int32))] (.int (0 : Int32)) := A59
    refine gs (mkF m 108 _ [(.ref b59), (.ref b59), (.ref b57), (.ref b57)]) (fun T A t k => XS.dup A B.x rfl (B.d at_107) rfl rfl k) ?_
    refine gs (mkF m 109 _ [(.int (0 : Int32)), (.ref b59), (.ref b59), (.ref b57), (.ref b57)]) (fun T A t k => XS.iconst A B.x rfl (B.d at_108) k) ?_
    refine gs (mkF m 111 _ [(.int c0), (.int (0 : Int32)), (.ref b59), (.ref b59), (.ref b57), (.ref b57)]) (fun T A t k => XS.iload A B.x rfl (B.d at_109) rfl k) ?_
    refine g_stC B V59 (x' := c0) (nar_ch hr0) ⟨by decide, by decide⟩ (i := 0) rfl (Nat.le_of_ble_eq_true rfl) at_111 (Safe.arv Wt60.1.alike V59 (by decide)) (by omega) (q := 112) rfl ?_
    intro h61 W61 A61
    refine g_wt (fun Wt62 => ?_)
    have z61 := W61.size
    have V61 : Arv Z h61 b59 k59 .char (3 : Int32) [(.int c0), (.int (0 : Int32)), (.int (0 : Int32))] (.int (0 : Int32)) := A61
    refine gs (mkF m 113 _ [(.ref b59), (.ref b59), (.ref b57), (.ref b57)]) (fun T A t k => XS.dup A B.x rfl (B.d at_112) rfl rfl k) ?_
    refine gs (mkF m 114 _ [(.int (1 : Int32)), (.ref b59), (.ref b59), (.ref b57), (.ref b57)]) (fun T A t k => XS.iconst A B.x rfl (B.d at_113) k) ?_
    refine gs (mkF m 116 _ [(.int c1), (.int (1 : Int32)), (.ref b59), (.ref b59), (.ref b57), (.ref b57)]) (fun T A t k => XS.iload A B.x rfl (B.d at_114) rfl k) ?_
    refine g_stC B V61 (x' := c1) (nar_ch hr1) ⟨by decide, by decide⟩ (i := 1) rfl (Nat.le_of_ble_eq_true rfl) at_116 (Safe.arv Wt62.1.alike V61 (by decide)) (by omega) (q := 117) rfl ?_
    intro h63 W63 A63
    refine g_wt (fun Wt64 => ?_)
    have z63 := W63.size
    have V63 : Arv Z h63 b59 k59 .char (3 : Int32) [(.int c0), (.int c1), (.int (0 : Int32))] (.int (0 : Int32)) := A63
    refine gs (mkF m 118 _ [(.ref b59), (.ref b59), (.ref b57), (.ref b57)]) (fun T A t k => XS.dup A B.x rfl (B.d at_117) rfl rfl k) ?_
    refine gs (mkF m 119 _ [(.int (2 : Int32)), (.ref b59), (.ref b59), (.ref b57), (.ref b57)]) (fun T A t k => XS.iconst A B.x rfl (B.d at_118) k) ?_
    refine gs (mkF m 121 _ [(.int c2), (.int (2 : Int32)), (.ref b59), (.ref b59), (.ref b57), (.ref b57)]) (fun T A t k => XS.iload A B.x rfl (B.d at_119) rfl k) ?_
    refine g_stC B V63 (x' := c2) (nar_ch hr2) ⟨by decide, by decide⟩ (i := 2) rfl (Nat.le_of_ble_eq_true rfl) at_121 (Safe.arv Wt64.1.alike V63 (by decide)) (by omega) (q := 122) rfl ?_
    intro h65 W65 A65
    refine g_wt (fun Wt66 => ?_)
    have z65 := W65.size
    have V65 : Arv Z h65 b59 k59 .char (3 : Int32) [(.int c0), (.int c1), (.int c2)] (.int (0 : Int32)) := A65
    refine g_metP (c_init B rfl (hw _ (List.mem_of_getElem? (i := 9) rfl)) (hw _ (List.mem_of_getElem? (i := 10) rfl)) (hw _ (List.mem_of_getElem? (i := 11) rfl)) (by decide) rfl (lenOf pd_285bC29V rfl) rfl (Nat.le_of_eq rfl) at_122 rfl (argsL := [(.ref b59)]) (rest := [(.ref b57)]) (W := 1) (q := 125)) (n_init1_3 l Z a0 hw EW.nil b57 b59 zc rv k59 c0 c1 c2 h65 n0 ((((A57.ext E59).wr W61).wr W63).wr W65) ((((F57_value.ext E59).other W61 (Or.inl (by omega : @Ne Nat b57 b59))).other W63 (Or.inl (by omega : @Ne Nat b57 b59))).other W65 (Or.inl (by omega : @Ne Nat b57 b59))) ((((F57_coder.ext E59).other W61 (Or.inl (by omega : @Ne Nat b57 b59))).other W63 (Or.inl (by omega : @Ne Nat b57 b59))).other W65 (Or.inl (by omega : @Ne Nat b57 b59))) V65 (by omega) (by omega) (by omega) hr0 hr1 hr2 PX (((((PO.ext E57).ext E59).wr W61 (by omega)).wr W63 (by omega)).wr W65 (by omega))) (hw _ (List.mem_of_getElem? (i := 11) rfl)) (hw _ (List.mem_of_getElem? (i := 7) rfl)) (by decide) (by decide) (by decide) (by decide) (fun v h' q => ⟨[b57], q.2.1, fun z hz => by cases List.mem_singleton.mp hz; exact (Safe.wr W65 (Safe.wr W63 (Safe.wr W61 S59 Wt60.2.2.1.1 S59) Wt62.2.2.1.1 (Safe.wr W61 S59 Wt60.2.2.1.1 S59)) Wt64.2.2.1.1 (Safe.wr W63 (Safe.wr W61 S59 Wt60.2.2.1.1 S59) Wt62.2.2.1.1 (Safe.wr W61 S59 Wt60.2.2.1.1 (Safe.ext E59 Wt58.2.2.1.1 S57))))⟩) ?_
    intro v67 h67 hz67 hQ67
    obtain ⟨rfl, K67, t67, g67, X67⟩ := hQ67
    refine g_wt (fun Wt68 => ?_)
    have z67 := K67.1; have y67 := X67.lt; have x67 := X67.lt'
    refine gs (mkF m 127 #[.val (.int p1), .val (.int p2), .val (.int p3), .val (.int p4), .val (.int (3 : Int32)), .val (.int c0), .val (.int c1), .val (.int c2), .val (.ref b57), .unset] []) (fun T A t k => XS.astore A B.x rfl (B.d at_125) rfl rfl (l' := #[.val (.int p1), .val (.int p2), .val (.int p3), .val (.int p4), .val (.int (3 : Int32)), .val (.int c0), .val (.int c1), .val (.int c2), .val (.ref b57), .unset]) rfl k) ?_
    refine gs (mkF m 129 _ [(.int (3 : Int32))]) (fun T A t k => XS.iload A B.x rfl (B.d at_127) rfl k) ?_
    refine gs (mkF m 130 _ [(.int (1 : Int32)), (.int (3 : Int32))]) (fun T A t k => XS.iconst A B.x rfl (B.d at_129) k) ?_
    refine gs (mkF m 133 _ []) (fun T A t k => XS.icmpNo A B.x rfl (B.d at_130) rfl (flt (by decide : ¬ ((3 : Int32) < (1 : Int32)))).1 k) ?_
    refine gs (mkF m 135 _ [(.int c0)]) (fun T A t k => XS.iload A B.x rfl (B.d at_133) rfl k) ?_
    refine g_metP (c_static B (hw _ (List.mem_of_getElem? (i := 84) rfl)) (hw _ (List.mem_of_getElem? (i := 85) rfl)) (hw _ (List.mem_of_getElem? (i := 2) rfl)) (hw _ (List.mem_of_getElem? (i := 86) rfl)) (by decide) rfl (lenOf pd_28C29Z rfl) rfl (Nat.le_of_eq rfl) at_135 rfl (argsL := [(.int c0)]) (rest := []) (W := 0) (q := 138)) (n_plain l Z a0 hw EW.nil (c0) h67 n0) (hw _ (List.mem_of_getElem? (i := 86) rfl)) (hw _ (List.mem_of_getElem? (i := 2) rfl)) (by decide) (by decide) (by decide) (by decide) (fun v h' q => ⟨[], by rw [← q.2]; exact Keep.refl _ _, all0⟩) ?_
    intro v69 h69 hz69 hQ69
    obtain ⟨rfl, rfl⟩ := hQ69
    by_cases hb0 : (c0 = (46 : Int32) ∨ c0 = (64 : Int32))
    · rw [if_pos hb0]
      refine gs (mkF m 173 _ []) (fun T A t k => XS.ifYes A B.x rfl (pc0 := 138) (pc' := 173) rfl (B.d at_138) rfl ((if0 _ _).trans (teq (by decide : (0 : Int32) = (0 : Int32))).1) (by decide) (by decide) k) ?_
      refine gs (mkF m 174 _ [(.int (0 : Int32))]) (fun T A t k => XS.iconst A B.x rfl (B.d at_173) k) ?_
      refine gs (mkF m 176 #[.val (.int p1), .val (.int p2), .val (.int p3), .val (.int p4), .val (.int (3 : Int32)), .val (.int c0), .val (.int c1), .val (.int c2), .val (.ref b57), .val (.int (0 : Int32))] []) (fun T A t k => XS.istore A B.x rfl (B.d at_174) rfl (l' := #[.val (.int p1), .val (.int p2), .val (.int p3), .val (.int p4), .val (.int (3 : Int32)), .val (.int c0), .val (.int c1), .val (.int c2), .val (.ref b57), .val (.int (0 : Int32))]) rfl k) ?_
      refine gs (mkF m 178 _ [(.ref b57)]) (fun T A t k => XS.aload A B.x rfl (B.d at_176) rfl rfl k) ?_
      refine g_metP (c_static B (hw _ (List.mem_of_getElem? (i := 27) rfl)) (hw _ (List.mem_of_getElem? (i := 28) rfl)) (hw _ (List.mem_of_getElem? (i := 29) rfl)) (hw _ (List.mem_of_getElem? (i := 30) rfl)) (by decide) rfl (lenOf pd_28Ljava2flang2fString3b29Z rfl) rfl (Nat.le_of_eq rfl) at_178 rfl (argsL := [(.ref b57)]) (rest := []) (W := 0) (q := 181)) (n_isLocalName_3 l Z a0 hw EW.nil b57 zc rv t67 c0 c1 c2 h67 n0 X67 PX ((((((PO.ext E57).ext E59).wr W61 (by omega)).wr W63 (by omega)).wr W65 (by omega)).keep K67 (allS (by omega) all0))) (hw _ (List.mem_of_getElem? (i := 30) rfl)) (hw _ (List.mem_of_getElem? (i := 29) rfl)) (by decide) (by decide) (by decide) (by decide) (fun v h' q => ⟨[], by rw [← q.2]; exact Keep.refl _ _, all0⟩) ?_
      intro v70 h70 hz70 hQ70
      obtain ⟨rfl, rfl⟩ := hQ70
      refine gs (mkF m 183 _ [(.int (0 : Int32)), (.int (loc [c0, c1, c2]))]) (fun T A t k => XS.iload A B.x rfl (B.d at_181) rfl k) ?_
      have hloc : loc [c0, c1, c2] = (0 : Int32) := by simp [loc, hb0]
      rw [hloc]
      refine gs (mkF m 186 _ []) (fun T A t k => XS.icmpNo A B.x rfl (B.d at_183) rfl (teq (by decide : (0 : Int32) = (0 : Int32))).2 k) ?_
      refine gs (mkF m 187 _ [(.int (1 : Int32))]) (fun T A t k => XS.iconst A B.x rfl (B.d at_186) k) ?_
      refine gs (mkF m 191 _ [(.int (1 : Int32))]) (fun T A t k => XS.goto A B.x rfl (pc0 := 187) (pc' := 191) rfl (B.d at_187) (by decide) (by decide) k) ?_
      exact g_retN (t := .boolean) B (by simp) at_191 (by decide) (by decide) rfl
    · rw [if_neg hb0]
      refine gs (mkF m 141 _ []) (fun T A t k => XS.ifNo A B.x rfl (B.d at_138) rfl ((if0 _ _).trans (feq (by decide : ¬ ((1 : Int32) = (0 : Int32)))).1) k) ?_
      refine gs (mkF m 143 _ [(.int (3 : Int32))]) (fun T A t k => XS.iload A B.x rfl (B.d at_141) rfl k) ?_
      refine gs (mkF m 144 _ [(.int (2 : Int32)), (.int (3 : Int32))]) (fun T A t k => XS.iconst A B.x rfl (B.d at_143) k) ?_
      refine gs (mkF m 147 _ []) (fun T A t k => XS.icmpNo A B.x rfl (B.d at_144) rfl (flt (by decide : ¬ ((3 : Int32) < (2 : Int32)))).1 k) ?_
      refine gs (mkF m 149 _ [(.int c1)]) (fun T A t k => XS.iload A B.x rfl (B.d at_147) rfl k) ?_
      refine g_metP (c_static B (hw _ (List.mem_of_getElem? (i := 84) rfl)) (hw _ (List.mem_of_getElem? (i := 85) rfl)) (hw _ (List.mem_of_getElem? (i := 2) rfl)) (hw _ (List.mem_of_getElem? (i := 86) rfl)) (by decide) rfl (lenOf pd_28C29Z rfl) rfl (Nat.le_of_eq rfl) at_149 rfl (argsL := [(.int c1)]) (rest := []) (W := 0) (q := 152)) (n_plain l Z a0 hw EW.nil (c1) h67 n0) (hw _ (List.mem_of_getElem? (i := 86) rfl)) (hw _ (List.mem_of_getElem? (i := 2) rfl)) (by decide) (by decide) (by decide) (by decide) (fun v h' q => ⟨[], by rw [← q.2]; exact Keep.refl _ _, all0⟩) ?_
      intro v71 h71 hz71 hQ71
      obtain ⟨rfl, rfl⟩ := hQ71
      by_cases hb1 : (c1 = (46 : Int32) ∨ c1 = (64 : Int32))
      · rw [if_pos hb1]
        refine gs (mkF m 173 _ []) (fun T A t k => XS.ifYes A B.x rfl (pc0 := 152) (pc' := 173) rfl (B.d at_152) rfl ((if0 _ _).trans (teq (by decide : (0 : Int32) = (0 : Int32))).1) (by decide) (by decide) k) ?_
        refine gs (mkF m 174 _ [(.int (0 : Int32))]) (fun T A t k => XS.iconst A B.x rfl (B.d at_173) k) ?_
        refine gs (mkF m 176 #[.val (.int p1), .val (.int p2), .val (.int p3), .val (.int p4), .val (.int (3 : Int32)), .val (.int c0), .val (.int c1), .val (.int c2), .val (.ref b57), .val (.int (0 : Int32))] []) (fun T A t k => XS.istore A B.x rfl (B.d at_174) rfl (l' := #[.val (.int p1), .val (.int p2), .val (.int p3), .val (.int p4), .val (.int (3 : Int32)), .val (.int c0), .val (.int c1), .val (.int c2), .val (.ref b57), .val (.int (0 : Int32))]) rfl k) ?_
        refine gs (mkF m 178 _ [(.ref b57)]) (fun T A t k => XS.aload A B.x rfl (B.d at_176) rfl rfl k) ?_
        refine g_metP (c_static B (hw _ (List.mem_of_getElem? (i := 27) rfl)) (hw _ (List.mem_of_getElem? (i := 28) rfl)) (hw _ (List.mem_of_getElem? (i := 29) rfl)) (hw _ (List.mem_of_getElem? (i := 30) rfl)) (by decide) rfl (lenOf pd_28Ljava2flang2fString3b29Z rfl) rfl (Nat.le_of_eq rfl) at_178 rfl (argsL := [(.ref b57)]) (rest := []) (W := 0) (q := 181)) (n_isLocalName_3 l Z a0 hw EW.nil b57 zc rv t67 c0 c1 c2 h67 n0 X67 PX ((((((PO.ext E57).ext E59).wr W61 (by omega)).wr W63 (by omega)).wr W65 (by omega)).keep K67 (allS (by omega) all0))) (hw _ (List.mem_of_getElem? (i := 30) rfl)) (hw _ (List.mem_of_getElem? (i := 29) rfl)) (by decide) (by decide) (by decide) (by decide) (fun v h' q => ⟨[], by rw [← q.2]; exact Keep.refl _ _, all0⟩) ?_
        intro v72 h72 hz72 hQ72
        obtain ⟨rfl, rfl⟩ := hQ72
        refine gs (mkF m 183 _ [(.int (0 : Int32)), (.int (loc [c0, c1, c2]))]) (fun T A t k => XS.iload A B.x rfl (B.d at_181) rfl k) ?_
        have hloc : loc [c0, c1, c2] = (0 : Int32) := by simp [loc, hb0, hb1]
        rw [hloc]
        refine gs (mkF m 186 _ []) (fun T A t k => XS.icmpNo A B.x rfl (B.d at_183) rfl (teq (by decide : (0 : Int32) = (0 : Int32))).2 k) ?_
        refine gs (mkF m 187 _ [(.int (1 : Int32))]) (fun T A t k => XS.iconst A B.x rfl (B.d at_186) k) ?_
        refine gs (mkF m 191 _ [(.int (1 : Int32))]) (fun T A t k => XS.goto A B.x rfl (pc0 := 187) (pc' := 191) rfl (B.d at_187) (by decide) (by decide) k) ?_
        exact g_retN (t := .boolean) B (by simp) at_191 (by decide) (by decide) rfl
      · rw [if_neg hb1]
        refine gs (mkF m 155 _ []) (fun T A t k => XS.ifNo A B.x rfl (B.d at_152) rfl ((if0 _ _).trans (feq (by decide : ¬ ((1 : Int32) = (0 : Int32)))).1) k) ?_
        refine gs (mkF m 157 _ [(.int (3 : Int32))]) (fun T A t k => XS.iload A B.x rfl (B.d at_155) rfl k) ?_
        refine gs (mkF m 158 _ [(.int (3 : Int32)), (.int (3 : Int32))]) (fun T A t k => XS.iconst A B.x rfl (B.d at_157) k) ?_
        refine gs (mkF m 161 _ []) (fun T A t k => XS.icmpNo A B.x rfl (B.d at_158) rfl (flt (by decide : ¬ ((3 : Int32) < (3 : Int32)))).1 k) ?_
        refine gs (mkF m 163 _ [(.int c2)]) (fun T A t k => XS.iload A B.x rfl (B.d at_161) rfl k) ?_
        refine g_metP (c_static B (hw _ (List.mem_of_getElem? (i := 84) rfl)) (hw _ (List.mem_of_getElem? (i := 85) rfl)) (hw _ (List.mem_of_getElem? (i := 2) rfl)) (hw _ (List.mem_of_getElem? (i := 86) rfl)) (by decide) rfl (lenOf pd_28C29Z rfl) rfl (Nat.le_of_eq rfl) at_163 rfl (argsL := [(.int c2)]) (rest := []) (W := 0) (q := 166)) (n_plain l Z a0 hw EW.nil (c2) h67 n0) (hw _ (List.mem_of_getElem? (i := 86) rfl)) (hw _ (List.mem_of_getElem? (i := 2) rfl)) (by decide) (by decide) (by decide) (by decide) (fun v h' q => ⟨[], by rw [← q.2]; exact Keep.refl _ _, all0⟩) ?_
        intro v73 h73 hz73 hQ73
        obtain ⟨rfl, rfl⟩ := hQ73
        by_cases hb2 : (c2 = (46 : Int32) ∨ c2 = (64 : Int32))
        · rw [if_pos hb2]
          refine gs (mkF m 173 _ []) (fun T A t k => XS.ifYes A B.x rfl (pc0 := 166) (pc' := 173) rfl (B.d at_166) rfl ((if0 _ _).trans (teq (by decide : (0 : Int32) = (0 : Int32))).1) (by decide) (by decide) k) ?_
          refine gs (mkF m 174 _ [(.int (0 : Int32))]) (fun T A t k => XS.iconst A B.x rfl (B.d at_173) k) ?_
          refine gs (mkF m 176 #[.val (.int p1), .val (.int p2), .val (.int p3), .val (.int p4), .val (.int (3 : Int32)), .val (.int c0), .val (.int c1), .val (.int c2), .val (.ref b57), .val (.int (0 : Int32))] []) (fun T A t k => XS.istore A B.x rfl (B.d at_174) rfl (l' := #[.val (.int p1), .val (.int p2), .val (.int p3), .val (.int p4), .val (.int (3 : Int32)), .val (.int c0), .val (.int c1), .val (.int c2), .val (.ref b57), .val (.int (0 : Int32))]) rfl k) ?_
          refine gs (mkF m 178 _ [(.ref b57)]) (fun T A t k => XS.aload A B.x rfl (B.d at_176) rfl rfl k) ?_
          refine g_metP (c_static B (hw _ (List.mem_of_getElem? (i := 27) rfl)) (hw _ (List.mem_of_getElem? (i := 28) rfl)) (hw _ (List.mem_of_getElem? (i := 29) rfl)) (hw _ (List.mem_of_getElem? (i := 30) rfl)) (by decide) rfl (lenOf pd_28Ljava2flang2fString3b29Z rfl) rfl (Nat.le_of_eq rfl) at_178 rfl (argsL := [(.ref b57)]) (rest := []) (W := 0) (q := 181)) (n_isLocalName_3 l Z a0 hw EW.nil b57 zc rv t67 c0 c1 c2 h67 n0 X67 PX ((((((PO.ext E57).ext E59).wr W61 (by omega)).wr W63 (by omega)).wr W65 (by omega)).keep K67 (allS (by omega) all0))) (hw _ (List.mem_of_getElem? (i := 30) rfl)) (hw _ (List.mem_of_getElem? (i := 29) rfl)) (by decide) (by decide) (by decide) (by decide) (fun v h' q => ⟨[], by rw [← q.2]; exact Keep.refl _ _, all0⟩) ?_
          intro v74 h74 hz74 hQ74
          obtain ⟨rfl, rfl⟩ := hQ74
          refine gs (mkF m 183 _ [(.int (0 : Int32)), (.int (loc [c0, c1, c2]))]) (fun T A t k => XS.iload A B.x rfl (B.d at_181) rfl k) ?_
          have hloc : loc [c0, c1, c2] = (0 : Int32) := by simp [loc, hb0, hb1, hb2]
          rw [hloc]
          refine gs (mkF m 186 _ []) (fun T A t k => XS.icmpNo A B.x rfl (B.d at_183) rfl (teq (by decide : (0 : Int32) = (0 : Int32))).2 k) ?_
          refine gs (mkF m 187 _ [(.int (1 : Int32))]) (fun T A t k => XS.iconst A B.x rfl (B.d at_186) k) ?_
          refine gs (mkF m 191 _ [(.int (1 : Int32))]) (fun T A t k => XS.goto A B.x rfl (pc0 := 187) (pc' := 191) rfl (B.d at_187) (by decide) (by decide) k) ?_
          exact g_retN (t := .boolean) B (by simp) at_191 (by decide) (by decide) rfl
        · rw [if_neg hb2]
          refine gs (mkF m 169 _ []) (fun T A t k => XS.ifNo A B.x rfl (B.d at_166) rfl ((if0 _ _).trans (feq (by decide : ¬ ((1 : Int32) = (0 : Int32)))).1) k) ?_
          refine gs (mkF m 170 _ [(.int (1 : Int32))]) (fun T A t k => XS.iconst A B.x rfl (B.d at_169) k) ?_
          refine gs (mkF m 174 _ [(.int (1 : Int32))]) (fun T A t k => XS.goto A B.x rfl (pc0 := 170) (pc' := 174) rfl (B.d at_170) (by decide) (by decide) k) ?_
          refine gs (mkF m 176 #[.val (.int p1), .val (.int p2), .val (.int p3), .val (.int p4), .val (.int (3 : Int32)), .val (.int c0), .val (.int c1), .val (.int c2), .val (.ref b57), .val (.int (1 : Int32))] []) (fun T A t k => XS.istore A B.x rfl (B.d at_174) rfl (l' := #[.val (.int p1), .val (.int p2), .val (.int p3), .val (.int p4), .val (.int (3 : Int32)), .val (.int c0), .val (.int c1), .val (.int c2), .val (.ref b57), .val (.int (1 : Int32))]) rfl k) ?_
          refine gs (mkF m 178 _ [(.ref b57)]) (fun T A t k => XS.aload A B.x rfl (B.d at_176) rfl rfl k) ?_
          refine g_metP (c_static B (hw _ (List.mem_of_getElem? (i := 27) rfl)) (hw _ (List.mem_of_getElem? (i := 28) rfl)) (hw _ (List.mem_of_getElem? (i := 29) rfl)) (hw _ (List.mem_of_getElem? (i := 30) rfl)) (by decide) rfl (lenOf pd_28Ljava2flang2fString3b29Z rfl) rfl (Nat.le_of_eq rfl) at_178 rfl (argsL := [(.ref b57)]) (rest := []) (W := 0) (q := 181)) (n_isLocalName_3 l Z a0 hw EW.nil b57 zc rv t67 c0 c1 c2 h67 n0 X67 PX ((((((PO.ext E57).ext E59).wr W61 (by omega)).wr W63 (by omega)).wr W65 (by omega)).keep K67 (allS (by omega) all0))) (hw _ (List.mem_of_getElem? (i := 30) rfl)) (hw _ (List.mem_of_getElem? (i := 29) rfl)) (by decide) (by decide) (by decide) (by decide) (fun v h' q => ⟨[], by rw [← q.2]; exact Keep.refl _ _, all0⟩) ?_
          intro v75 h75 hz75 hQ75
          obtain ⟨rfl, rfl⟩ := hQ75
          refine gs (mkF m 183 _ [(.int (1 : Int32)), (.int (loc [c0, c1, c2]))]) (fun T A t k => XS.iload A B.x rfl (B.d at_181) rfl k) ?_
          have hloc : loc [c0, c1, c2] = (1 : Int32) := by simp [loc, hb0, hb1, hb2]
          rw [hloc]
          refine gs (mkF m 186 _ []) (fun T A t k => XS.icmpNo A B.x rfl (B.d at_183) rfl (teq (by decide : (1 : Int32) = (1 : Int32))).2 k) ?_
          refine gs (mkF m 187 _ [(.int (1 : Int32))]) (fun T A t k => XS.iconst A B.x rfl (B.d at_186) k) ?_
          refine gs (mkF m 191 _ [(.int (1 : Int32))]) (fun T A t k => XS.goto A B.x rfl (pc0 := 187) (pc' := 191) rfl (B.d at_187) (by decide) (by decide) k) ?_
          exact g_retN (t := .boolean) B (by simp) at_191 (by decide) (by decide) rfl
set_option maxRecDepth 65536 in
set_option maxHeartbeats 40000000 in
theorem comes_1 {Post : Tables → Env → Array Value → State → Outcome → State → Prop} (hpost : ∀ tb e args s v u, (limb_1_1.after args s (.returned v) u = true ∧ limb_1_2.after args s (.returned v) u = true ∧ True) → ReturnedEndW s (.returned v) u (Jvm.fieldLocs frame_1_writes args s ++ Jvm.arrayLocs frame_1_arrays args s ++ Jvm.staticLocs frame_1_statics s) 24 1152 → Post tb e args s (.returned v) u) :
    ArmFor flags0 classFile x code maxLocals ret World_1 tables_1 room_1 Calls_1 rest_1 Pre_1 Post := by
  intro l hfl _ _ p e ha hc hk s m args below hf hA hF happ hP
  obtain ⟨hcalls, hrest, hpre⟩ := hP
  obtain ⟨-, -, -, hnamed, -, -, -, hat⟩ := (Spec.applies_iff hf).mp happ
  obtain ⟨hg, hn⟩ := and_e (Cond.before_iff.mp (show (Jvm.Cond.and given_1 narrow_1).before args s = true from hpre))
  obtain ⟨gc, gr0⟩ := and_e hg
  obtain ⟨ga0, gr1⟩ := and_e gr0
  obtain ⟨ga1, gr2⟩ := and_e gr1
  obtain ⟨ga2, gr3⟩ := and_e gr2
  have ga3 := gr3
  obtain ⟨w0, w1, w2, w3, rfl⟩ : ∃ w0 w1 w2 w3 : Value, args = #[w0, w1, w2, w3] := by
    have hs : args.size = 4 := by simpa [Cond.value, given_1] using gc
    obtain ⟨L⟩ := args
    match L, hs with
    | [w0, w1, w2, w3], _ => exact ⟨w0, w1, w2, w3, rfl⟩
  have hw := fun d (hd : d ∈ tables_1) => atoms_spec (ws := Jvm.Cond.code x code maxLocals ret :: tables_1) hat d (List.mem_cons_of_mem _ hd)
  have hfit : Fit s := fun {y c} hc i hi => by
    obtain ⟨ha, rfl⟩ := Array.getElem?_eq_some_iff.mp hc
    have q := List.all_eq_true.mp ((Array.all_eq_true_iff_forall_mem.mp hF) _ (Array.getElem_mem ha)) i (List.mem_range.mpr hi)
    simpa [Array.getElem?_eq_getElem hi] using q
  obtain ⟨hsets, hown0⟩ := atoms_of _ (rest_1_c_eq ▸ (show rest_1_c.before _ s = true from hrest))
  obtain ⟨i0, ei0⟩ := is_v ga0
  obtain rfl : w0 = (.int i0) := Option.some.inj ei0
  obtain ⟨i1, ei1⟩ := is_v ga1
  obtain rfl : w1 = (.int i1) := Option.some.inj ei1
  obtain ⟨i2, ei2⟩ := is_v ga2
  obtain rfl : w2 = (.int i2) := Option.some.inj ei2
  obtain ⟨i3, ei3⟩ := is_v ga3
  obtain rfl : w3 = (.int i3) := Option.some.inj ei3
  have ncs := not_v (Cond.before_iff.mp (hsets _ (List.mem_of_getElem? (i := 2) rfl)))
  obtain ⟨zc, ezc⟩ := is_v (Cond.before_iff.mp (hsets _ (List.mem_of_getElem? (i := 1) rfl)))
  have SC : Sta s s.heap "java/lang/String" "COMPACT_STRINGS" "Z" (.int zc) := Sta.start ezc (Or.inl (hsets _ (List.mem_of_getElem? (i := 0) rfl)))
  have hzc : ¬ (zc = (0 : Int32)) := gotF (Cond.eq_ints ezc (Term.int_eval (0))) ncs
  have eA := eq_int (Cond.before_iff.mp (hsets _ (List.mem_of_getElem? (i := 12) rfl)))
  have eH := eq_int (Cond.before_iff.mp (hsets _ (List.mem_of_getElem? (i := 15) rfl)))
  have eL := eq_int (Cond.before_iff.mp (hsets _ (List.mem_of_getElem? (i := 18) rfl)))
  obtain ⟨rv, erv, rf⟩ := isR_v (Cond.before_iff.mp (hsets _ (List.mem_of_getElem? (i := 8) rfl)))
  have PX : Sts s zc rv := ⟨SC, hzc, Sta.start eA (Or.inl (hsets _ (List.mem_of_getElem? (i := 11) rfl))), Sta.start eH (Or.inl (hsets _ (List.mem_of_getElem? (i := 14) rfl))), Sta.start eL (Or.inl (hsets _ (List.mem_of_getElem? (i := 17) rfl))), Sta.start erv (Or.inl (hsets _ (List.mem_of_getElem? (i := 7) rfl))), rf⟩
  have hEL : EW s _ consts_1 := (EW.cons (hw _ (List.mem_of_getElem? (i := 19) rfl)) (by decide) EW.nil)
  have hCH : CHv s consts_1 s.vm s.heap := CHv.start hEL (fun p hp => hcalls.1 p hp) (hsets _ (List.mem_of_getElem? (i := 2) rfl)) (hw _ (List.mem_of_getElem? (i := 20) rfl)) (hw _ (List.mem_of_getElem? (i := 6) rfl))
  obtain ⟨n, o, h1, h2, h3, v, L, rfl, ⟨rfl, N⟩, -, hE, hq⟩ := own_law l s _ hw hEL i0 i1 i2 i3 zc rv s.heap s.heap.size (Nat.le_refl _) PX (Old.start s) tables_1 p e ha hc hk s m _ below hf ((Spec.applies_iff_loose hf).mp happ).1 ⟨rfl, State.Warmed39.refl s, rfl, hCH, (fun _ q => nomatch q)⟩ trivial
  refine ⟨n, _, h1, h2, h3, hpost _ _ _ _ _ _ ⟨Cond.after_iff.mpr rfl, Cond.after_iff.mpr (eq_i res_at (Term.int_eval (1)) rfl), trivial⟩ ⟨hE.1, hE.2.1, hE.2.2.1, (hE.2.2.2.sift fun y hy => Or.inr (N y hy)).mono (by decide) (by decide)⟩⟩
theorem main_1_1 : Claimed_1_1 := comes_1 fun _ _ _ _ _ _ h hF => ⟨h.1, hF⟩
theorem main_1_2 : Claimed_1_2 := comes_1 fun _ _ _ _ _ _ h hF => ⟨h.2.1, hF⟩
end Jvm.Pilot.@@N@@
namespace Jvm.Pilot.@@N@@
open Jvm Jvm.ClassFile Sem Op Lib Jvm.Free Jvm.Stand Jvm.Pilot.@@N@@.Jvm.D
/-! MADE BY PROGRAM (witnessworld.py) out of the Statement's table words and the real class files: 21 classes; the members and pool entries that the words name. The judged class is class 1, her method 3. -/
namespace start1
open Jvm.ClassFile
def u (s : String) : CpInfo := .utf8 (stringToUtf16 s)
/-- a pool by its gaps: so many unusable entries, then the entry; so many at the end -/
def gap : Nat → List CpInfo → List CpInfo
  | 0, r => r
  | n + 1, r => .unusable :: gap n r
def poolList (es : List (Nat × CpInfo)) (last : Nat) : List CpInfo := es.foldr (fun e r => gap e.1 (e.2 :: r)) (gap last [])
def pool (es : List (Nat × CpInfo)) (last : Nat) : Array CpInfo := ⟨poolList es last⟩
def fileOf (pool : Array CpInfo) (this : Nat) (attrs : Array Attribute := #[]) (ms : Array MethodInfo := #[]) (fl : Nat := 33) (sup : Nat := 0) (ifs : Array Nat := #[]) (fds : Array FieldInfo := #[]) : ClassFile where
  minorVersion := 0
  majorVersion := 65
  constantPool := pool
  accessFlags := fl
  thisClass := this
  superClass := sup
  interfaces := ifs
  fields := fds
  methods := ms
  attributes := attrs
def plain (name : String) (sup : Option ClassId) : Class where
  name := name
  kind := .ordinary
  loader := none
  accessFlags := 33
  super := sup
  interfaces := #[]
  cf := none
  fields := #[]
  methods := #[]
  instanceTypes := #[]
  staticTypes := #[]
  resolved := #[]
  callSites := []
  init := .initialized
  statics := none
  mirror := none

def pool0 : Array CpInfo := pool [(5, u "<init>"), (0, u "()V"), (1, .class_ 10), (1, u "java/lang/Object")] 113

def k0c0 : Code := { maxStack := 0, maxLocals := 1, code := object_method_1_code, exceptionTable := #[], attributes := #[] }
def k0m0 : Method := { name := "<init>", desc := "()V", sig := { parameters := [], returnType := none }, accessFlags := 1, code := some k0c0 }
/-- java/lang/Object -/
def k0 : Class := { plain "java/lang/Object" none with
  accessFlags := 33
  interfaces := #[]
  cf := some (fileOf pool0 8 #[] #[{ accessFlags := 1, nameIndex := 5, descriptorIndex := 6, attributes := #[] }] 33 0 #[] #[])
  fields := #[]
  methods := #[k0m0]
  instanceTypes := #[]
  staticTypes := #[]
  resolved := Array.replicate 124 none
  statics := none }

def pool1 : Array CpInfo := pool [(2, .class_ 4), (1, u "java/lang/Object"), (0, u "<init>"), (0, u "()V"), (0, .integer 65535), (0, .methodref 9 10), (0, .class_ 11), (0, .nameAndType 12 13), (0, u "com/example/multi_domain_access/multidomainaccess/NamesIsLocalNamePinLaw"), (0, u "draw"), (0, u "(I)C"), (0, .class_ 15), (0, u "java/lang/String"), (0, .methodref 14 17), (0, .nameAndType 5 18), (0, u "([C)V"), (0, .methodref 9 20), (0, .nameAndType 21 22), (0, u "plain"), (0, u "(C)Z"), (0, .methodref 24 25), (0, .class_ 26), (0, .nameAndType 27 28), (0, u "com/example/multi_domain_access/multidomainaccess/Names"), (0, u "isLocalName"), (0, u "(Ljava/lang/String;)Z"), (3, u "law"), (0, u "(IIII)Z")] 2

def k1m0 : Method := { name := "<init>", desc := "()V", sig := { parameters := [], returnType := none }, accessFlags := 2, code := none }
def k1c1 : Code := { maxStack := 2, maxLocals := 2, code := method_2_code, exceptionTable := #[], attributes := #[] }
def k1m1 : Method := { name := "draw", desc := "(I)C", sig := { parameters := [.int], returnType := some .char }, accessFlags := 10, code := some k1c1 }
def k1c2 : Code := { maxStack := 2, maxLocals := 1, code := method_3_code, exceptionTable := #[], attributes := #[] }
def k1m2 : Method := { name := "plain", desc := "(C)Z", sig := { parameters := [.char], returnType := some .boolean }, accessFlags := 10, code := some k1c2 }
def k1c3 : Code := { maxStack := 6, maxLocals := 10, code := code, exceptionTable := #[], attributes := #[] }
def k1m3 : Method := { name := "law", desc := "(IIII)Z", sig := { parameters := [.int, .int, .int, .int], returnType := some .boolean }, accessFlags := 9, code := some k1c3 }
/-- com/example/multi_domain_access/multidomainaccess/NamesIsLocalNamePinLaw -/
def k1 : Class := { plain "com/example/multi_domain_access/multidomainaccess/NamesIsLocalNamePinLaw" (some 0) with
  accessFlags := 49
  interfaces := #[]
  cf := some (fileOf pool1 9 #[] #[{ accessFlags := 2, nameIndex := 5, descriptorIndex := 6, attributes := #[] }, { accessFlags := 10, nameIndex := 12, descriptorIndex := 13, attributes := #[] }, { accessFlags := 10, nameIndex := 21, descriptorIndex := 22, attributes := #[] }, { accessFlags := 9, nameIndex := 32, descriptorIndex := 33, attributes := #[] }] 49 2 #[] #[])
  fields := #[]
  methods := #[k1m0, k1m1, k1m2, k1m3]
  instanceTypes := #[]
  staticTypes := #[]
  resolved := Array.replicate 36 none
  statics := none }

def pool2 : Array CpInfo := pool [(1, .class_ 2), (0, u "java/io/Serializable"), (0, .class_ 4), (0, u "java/lang/Object")] 2

/-- java/io/Serializable -/
def k2 : Class := { plain "java/io/Serializable" (some 0) with
  accessFlags := 1537
  interfaces := #[]
  cf := some (fileOf pool2 1 #[] #[] 1537 3 #[] #[])
  fields := #[]
  methods := #[]
  instanceTypes := #[]
  staticTypes := #[]
  resolved := Array.replicate 7 none
  statics := none }

def pool3 : Array CpInfo := pool [(1, .class_ 2), (0, u "java/lang/Comparable"), (0, .class_ 4), (0, u "java/lang/Object")] 7

/-- java/lang/Comparable -/
def k3 : Class := { plain "java/lang/Comparable" (some 0) with
  accessFlags := 1537
  interfaces := #[]
  cf := some (fileOf pool3 1 #[] #[] 1537 3 #[] #[])
  fields := #[]
  methods := #[]
  instanceTypes := #[]
  staticTypes := #[]
  resolved := Array.replicate 12 none
  statics := none }

def pool4 : Array CpInfo := pool [(2, .class_ 4), (1, u "java/lang/CharSequence"), (42, .class_ 48), (0, u "java/lang/CharSequence$1CodePointIterator"), (10, .class_ 60), (0, u "java/lang/CharSequence$1CharIterator"), (5, .class_ 67), (0, u "java/lang/Object")] 63

/-- java/lang/CharSequence -/
def k4 : Class := { plain "java/lang/CharSequence" (some 0) with
  accessFlags := 1537
  interfaces := #[]
  cf := some (fileOf pool4 2 #[.nestMembers #[47, 59]] #[] 1537 66 #[] #[])
  fields := #[]
  methods := #[]
  instanceTypes := #[]
  staticTypes := #[]
  resolved := Array.replicate 131 none
  statics := none }

def pool5 : Array CpInfo := pool [(1, .class_ 2), (0, u "java/lang/constant/Constable"), (0, .class_ 4), (0, u "java/lang/Object")] 6

/-- java/lang/constant/Constable -/
def k5 : Class := { plain "java/lang/constant/Constable" (some 0) with
  accessFlags := 1537
  interfaces := #[]
  cf := some (fileOf pool5 1 #[] #[] 1537 3 #[] #[])
  fields := #[]
  methods := #[]
  instanceTypes := #[]
  staticTypes := #[]
  resolved := Array.replicate 11 none
  statics := none }

def pool6 : Array CpInfo := pool [(1, .class_ 2), (0, u "java/lang/constant/ConstantDesc"), (0, .class_ 4), (0, u "java/lang/Object")] 32

/-- java/lang/constant/ConstantDesc -/
def k6 : Class := { plain "java/lang/constant/ConstantDesc" (some 0) with
  accessFlags := 1537
  interfaces := #[]
  cf := some (fileOf pool6 1 #[] #[] 1537 3 #[] #[])
  fields := #[]
  methods := #[]
  instanceTypes := #[]
  staticTypes := #[]
  resolved := Array.replicate 37 none
  statics := none }

def pool7 : Array CpInfo := pool [(1, .methodref 2 3), (0, .class_ 4), (0, .nameAndType 5 6), (0, u "java/lang/Object"), (0, u "<init>"), (0, u "()V"), (0, .string 8), (0, u ""), (0, .fieldref 10 11), (0, .class_ 12), (0, .nameAndType 13 14), (0, u "java/lang/String"), (0, u "value"), (0, u "[B"), (0, .fieldref 10 16), (0, .nameAndType 17 18), (0, u "coder"), (0, u "B"), (2, u "hash"), (0, u "I"), (2, u "hashIsZero"), (0, u "Z"), (0, .methodref 10 28), (0, .nameAndType 5 29), (0, u "([CIILjava/lang/Void;)V"), (8, .fieldref 10 39), (0, .nameAndType 40 26), (0, u "COMPACT_STRINGS"), (1, .class_ 44), (1, u "java/lang/StringUTF16"), (0, u "compress"), (1, .methodref 42 48), (0, .nameAndType 49 50), (0, u "coderFromArrayLen"), (0, u "([BI)B"), (56, .class_ 109), (1, u "java/lang/StringLatin1"), (32, u "()Z"), (34, .methodref 42 178), (0, .nameAndType 45 179), (0, u "([CII)[B"), (154, u "()I"), (0, .methodref 10 336), (0, .nameAndType 17 337), (0, u "()B"), (154, .methodref 10 493), (0, .nameAndType 494 142), (0, u "isLatin1"), (10, .methodref 10 506), (0, .nameAndType 507 334), (0, u "length"), (5, u "checkFromToIndex"), (9, u "checkBoundsBeginEnd"), (0, u "(III)V"), (50, .class_ 576), (0, u "java/lang/CharSequence"), (22, u "CASE_INSENSITIVE_ORDER"), (0, u "Ljava/util/Comparator;"), (32, .methodref 10 634), (0, .nameAndType 635 636), (0, u "indexOf"), (0, u "(II)I"), (0, .methodref 107 638), (0, .nameAndType 635 639), (0, u "([BIII)I"), (0, .methodref 42 638), (124, u "(I)I"), (244, u "([C)V"), (42, .fieldref 1054 1055), (0, .class_ 1056), (0, .nameAndType 1057 1058), (0, u "jdk/internal/util/Preconditions"), (0, u "SIOOBE_FORMATTER"), (0, u "Ljava/util/function/BiFunction;"), (3, .methodref 1054 1063), (0, .nameAndType 513 1064), (0, u "(IIILjava/util/function/BiFunction;)I"), (36, u "serialPersistentFields"), (0, u "[Ljava/io/ObjectStreamField;"), (0, .class_ 1104), (0, u "java/lang/String$CaseInsensitiveComparator"), (1, .class_ 1107), (0, u "java/io/Serializable"), (0, .class_ 1109), (0, u "java/lang/Comparable"), (0, .class_ 1111), (0, u "java/lang/constant/Constable"), (0, .class_ 1113), (0, u "java/lang/constant/ConstantDesc"), (2, u "serialVersionUID"), (0, u "J"), (3, u "REPL"), (0, u "C"), (2, u "LATIN1"), (1, u "UTF16")] 323

def k7m0 : Method := { name := "<init>", desc := "()V", sig := { parameters := [], returnType := none }, accessFlags := 1, code := none }
def k7c1 : Code := { maxStack := 5, maxLocals := 2, code := jdk_42_method_3_code, exceptionTable := #[], attributes := #[] }
def k7m1 : Method := { name := "<init>", desc := "([C)V", sig := { parameters := [(.array .char)], returnType := none }, accessFlags := 1, code := some k7c1 }
def k7c2 : Code := { maxStack := 2, maxLocals := 1, code := jdk_42_method_54_code, exceptionTable := #[], attributes := #[] }
def k7m2 : Method := { name := "length", desc := "()I", sig := { parameters := [], returnType := some .int }, accessFlags := 1, code := some k7c2 }
def k7c3 : Code := { maxStack := 3, maxLocals := 2, code := jdk_42_method_79_code, exceptionTable := #[], attributes := #[] }
def k7m3 : Method := { name := "indexOf", desc := "(I)I", sig := { parameters := [.int], returnType := some .int }, accessFlags := 1, code := some k7c3 }
def k7c4 : Code := { maxStack := 4, maxLocals := 3, code := jdk_42_method_80_code, exceptionTable := #[], attributes := #[] }
def k7m4 : Method := { name := "indexOf", desc := "(II)I", sig := { parameters := [.int, .int], returnType := some .int }, accessFlags := 1, code := some k7c4 }
def k7c5 : Code := { maxStack := 4, maxLocals := 6, code := jdk_42_method_149_code, exceptionTable := #[], attributes := #[] }
def k7m5 : Method := { name := "<init>", desc := "([CIILjava/lang/Void;)V", sig := { parameters := [(.array .char), .int, .int, (.object "java/lang/Void")], returnType := none }, accessFlags := 2, code := some k7c5 }
def k7c6 : Code := { maxStack := 1, maxLocals := 1, code := jdk_42_method_152_code, exceptionTable := #[], attributes := #[] }
def k7m6 : Method := { name := "coder", desc := "()B", sig := { parameters := [], returnType := some .byte }, accessFlags := 0, code := some k7c6 }
def k7c7 : Code := { maxStack := 1, maxLocals := 1, code := jdk_42_method_154_code, exceptionTable := #[], attributes := #[] }
def k7m7 : Method := { name := "isLatin1", desc := "()Z", sig := { parameters := [], returnType := some .boolean }, accessFlags := 0, code := some k7c7 }
def k7c8 : Code := { maxStack := 4, maxLocals := 3, code := jdk_42_method_158_code, exceptionTable := #[], attributes := #[] }
def k7m8 : Method := { name := "checkBoundsBeginEnd", desc := "(III)V", sig := { parameters := [.int, .int, .int], returnType := none }, accessFlags := 8, code := some k7c8 }
/-- java/lang/String -/
def k7 : Class := { plain "java/lang/String" (some 0) with
  accessFlags := 49
  interfaces := #[2, 3, 4, 5, 6]
  cf := some (fileOf pool7 10 #[.nestMembers #[1103]] #[{ accessFlags := 1, nameIndex := 5, descriptorIndex := 6, attributes := #[] }, { accessFlags := 1, nameIndex := 5, descriptorIndex := 1010, attributes := #[] }, { accessFlags := 1, nameIndex := 507, descriptorIndex := 334, attributes := #[] }, { accessFlags := 1, nameIndex := 635, descriptorIndex := 765, attributes := #[] }, { accessFlags := 1, nameIndex := 635, descriptorIndex := 636, attributes := #[] }, { accessFlags := 2, nameIndex := 5, descriptorIndex := 29, attributes := #[] }, { accessFlags := 0, nameIndex := 17, descriptorIndex := 337, attributes := #[] }, { accessFlags := 0, nameIndex := 494, descriptorIndex := 142, attributes := #[] }, { accessFlags := 8, nameIndex := 523, descriptorIndex := 524, attributes := #[] }] 49 2 #[1106, 1108, 575, 1110, 1112] #[{ accessFlags := 18, nameIndex := 13, descriptorIndex := 14, attributes := #[] }, { accessFlags := 18, nameIndex := 17, descriptorIndex := 18, attributes := #[] }, { accessFlags := 2, nameIndex := 21, descriptorIndex := 22, attributes := #[] }, { accessFlags := 2, nameIndex := 25, descriptorIndex := 26, attributes := #[] }, { accessFlags := 26, nameIndex := 1116, descriptorIndex := 1117, attributes := #[] }, { accessFlags := 24, nameIndex := 40, descriptorIndex := 26, attributes := #[] }, { accessFlags := 26, nameIndex := 1101, descriptorIndex := 1102, attributes := #[] }, { accessFlags := 26, nameIndex := 1121, descriptorIndex := 1122, attributes := #[] }, { accessFlags := 25, nameIndex := 599, descriptorIndex := 600, attributes := #[] }, { accessFlags := 24, nameIndex := 1125, descriptorIndex := 18, attributes := #[] }, { accessFlags := 24, nameIndex := 1127, descriptorIndex := 18, attributes := #[] }])
  fields := #[{ name := "value", type := (.array .byte), accessFlags := 18, slot := 0, constantValue := 0 }, { name := "coder", type := .byte, accessFlags := 18, slot := 1, constantValue := 0 }, { name := "hash", type := .int, accessFlags := 2, slot := 2, constantValue := 0 }, { name := "hashIsZero", type := .boolean, accessFlags := 2, slot := 3, constantValue := 0 }, { name := "serialVersionUID", type := .long, accessFlags := 26, slot := 0, constantValue := 0 }, { name := "COMPACT_STRINGS", type := .boolean, accessFlags := 24, slot := 1, constantValue := 0 }, { name := "serialPersistentFields", type := (.array (.object "java/io/ObjectStreamField")), accessFlags := 26, slot := 2, constantValue := 0 }, { name := "REPL", type := .char, accessFlags := 26, slot := 3, constantValue := 0 }, { name := "CASE_INSENSITIVE_ORDER", type := (.object "java/util/Comparator"), accessFlags := 25, slot := 4, constantValue := 0 }, { name := "LATIN1", type := .byte, accessFlags := 24, slot := 5, constantValue := 0 }, { name := "UTF16", type := .byte, accessFlags := 24, slot := 6, constantValue := 0 }]
  methods := #[k7m0, k7m1, k7m2, k7m3, k7m4, k7m5, k7m6, k7m7, k7m8]
  instanceTypes := #[(.array .byte), .byte, .int, .boolean]
  staticTypes := #[.long, .boolean, (.array (.object "java/io/ObjectStreamField")), .char, (.object "java/util/Comparator"), .byte, .byte]
  resolved := Array.replicate 1451 none
  statics := some 0 }

def pool8 : Array CpInfo := pool [(2, .class_ 4), (1, u "java/lang/Object"), (0, u "<init>"), (0, u "()V"), (1, .class_ 10), (1, u "java/lang/String"), (4, .class_ 16), (0, u "com/example/multi_domain_access/multidomainaccess/Names"), (1, .methodref 8 19), (0, .nameAndType 20 21), (0, u "indexOf"), (0, u "(I)I"), (29, .methodref 15 52), (0, .nameAndType 53 54), (0, u "isPrincipal"), (0, u "(Ljava/lang/String;)Z"), (28, u "SESSION_ROLE"), (0, u "Ljava/lang/String;"), (1, u "REPLACEMENT"), (0, u "C"), (5, u "isLocalName")] 20

def k8m0 : Method := { name := "<init>", desc := "()V", sig := { parameters := [], returnType := none }, accessFlags := 2, code := none }
def k8c1 : Code := { maxStack := 2, maxLocals := 1, code := prog_11_method_5_code, exceptionTable := #[], attributes := #[] }
def k8m1 : Method := { name := "isPrincipal", desc := "(Ljava/lang/String;)Z", sig := { parameters := [(.object "java/lang/String")], returnType := some .boolean }, accessFlags := 8, code := some k8c1 }
def k8c2 : Code := { maxStack := 2, maxLocals := 1, code := prog_11_method_7_code, exceptionTable := #[], attributes := #[] }
def k8m2 : Method := { name := "isLocalName", desc := "(Ljava/lang/String;)Z", sig := { parameters := [(.object "java/lang/String")], returnType := some .boolean }, accessFlags := 8, code := some k8c2 }
/-- com/example/multi_domain_access/multidomainaccess/Names -/
def k8 : Class := { plain "com/example/multi_domain_access/multidomainaccess/Names" (some 0) with
  accessFlags := 49
  interfaces := #[]
  cf := some (fileOf pool8 15 #[] #[{ accessFlags := 2, nameIndex := 5, descriptorIndex := 6, attributes := #[] }, { accessFlags := 8, nameIndex := 53, descriptorIndex := 54, attributes := #[] }, { accessFlags := 8, nameIndex := 93, descriptorIndex := 54, attributes := #[] }] 49 2 #[] #[{ accessFlags := 24, nameIndex := 83, descriptorIndex := 84, attributes := #[] }, { accessFlags := 26, nameIndex := 86, descriptorIndex := 87, attributes := #[] }])
  fields := #[{ name := "SESSION_ROLE", type := (.object "java/lang/String"), accessFlags := 24, slot := 0, constantValue := 0 }, { name := "REPLACEMENT", type := .char, accessFlags := 26, slot := 1, constantValue := 0 }]
  methods := #[k8m0, k8m1, k8m2]
  instanceTypes := #[]
  staticTypes := #[(.object "java/lang/String"), .char]
  resolved := Array.replicate 114 none
  statics := none }

def pool9 : Array CpInfo := pool [(4, .class_ 6), (1, u "java/lang/Object"), (0, u "<init>"), (0, u "()V"), (5, .class_ 16), (1, u "java/lang/StringLatin1"), (21, .methodref 39 40), (0, .class_ 41), (0, .nameAndType 42 43), (0, u "java/lang/Math"), (0, u "min"), (0, u "(II)I"), (44, .methodref 14 89), (0, .nameAndType 90 91), (0, u "canEncode"), (0, u "(I)Z"), (0, .methodref 39 93), (0, .nameAndType 94 43), (0, u "max"), (0, .methodref 14 96), (0, .nameAndType 97 98), (0, u "indexOfChar"), (0, u "([BIII)I"), (2, u "indexOf"), (19, u "$assertionsDisabled"), (0, u "Z"), (98, .class_ 223), (1, u "java/lang/StringLatin1$LinesSpliterator"), (166, .class_ 391), (0, u "java/lang/StringLatin1$CharsSpliterator")] 3

def k9m0 : Method := { name := "<init>", desc := "()V", sig := { parameters := [], returnType := none }, accessFlags := 0, code := none }
def k9c1 : Code := { maxStack := 2, maxLocals := 1, code := jdk_43_method_4_code, exceptionTable := #[], attributes := #[] }
def k9m1 : Method := { name := "canEncode", desc := "(I)Z", sig := { parameters := [.int], returnType := some .boolean }, accessFlags := 9, code := some k9c1 }
def k9c2 : Code := { maxStack := 4, maxLocals := 4, code := jdk_43_method_22_code, exceptionTable := #[], attributes := #[] }
def k9m2 : Method := { name := "indexOf", desc := "([BIII)I", sig := { parameters := [(.array .byte), .int, .int, .int], returnType := some .int }, accessFlags := 9, code := some k9c2 }
def k9c3 : Code := { maxStack := 2, maxLocals := 6, code := jdk_43_method_23_code, exceptionTable := #[], attributes := #[] }
def k9m3 : Method := { name := "indexOfChar", desc := "([BIII)I", sig := { parameters := [(.array .byte), .int, .int, .int], returnType := some .int }, accessFlags := 10, code := some k9c3 }
/-- java/lang/StringLatin1 -/
def k9 : Class := { plain "java/lang/StringLatin1" (some 0) with
  accessFlags := 48
  interfaces := #[]
  cf := some (fileOf pool9 14 #[.nestMembers #[390, 221]] #[{ accessFlags := 0, nameIndex := 7, descriptorIndex := 8, attributes := #[] }, { accessFlags := 9, nameIndex := 90, descriptorIndex := 91, attributes := #[] }, { accessFlags := 9, nameIndex := 101, descriptorIndex := 98, attributes := #[] }, { accessFlags := 10, nameIndex := 97, descriptorIndex := 98, attributes := #[] }] 48 4 #[] #[{ accessFlags := 4120, nameIndex := 121, descriptorIndex := 122, attributes := #[] }])
  fields := #[{ name := "$assertionsDisabled", type := .boolean, accessFlags := 4120, slot := 0, constantValue := 0 }]
  methods := #[k9m0, k9m1, k9m2, k9m3]
  instanceTypes := #[]
  staticTypes := #[.boolean]
  resolved := Array.replicate 395 none
  statics := none }

def pool10 : Array CpInfo := pool [(1, .class_ 2), (0, u "java/lang/Math"), (1, .class_ 6), (1, u "java/lang/Object"), (0, u "<init>"), (0, u "()V"), (89, .class_ 100), (1, u "java/lang/Math$RandomNumberGeneratorHolder"), (71, u "negativeZeroFloatBits"), (0, u "J"), (2, u "negativeZeroDoubleBits"), (21, u "max"), (2, u "min"), (43, u "$assertionsDisabled"), (0, u "Z"), (88, u "(II)I"), (2, u "twoToTheDoubleScaleDown"), (0, u "D"), (4, u "twoToTheDoubleScaleUp"), (9, u "E"), (3, u "PI"), (2, u "TAU"), (2, u "DEGREES_TO_RADIANS"), (0, u "RADIANS_TO_DEGREES")] 94

def k10m0 : Method := { name := "<init>", desc := "()V", sig := { parameters := [], returnType := none }, accessFlags := 2, code := none }
def k10c1 : Code := { maxStack := 2, maxLocals := 2, code := jdk_29_method_65_code, exceptionTable := #[], attributes := #[] }
def k10m1 : Method := { name := "max", desc := "(II)I", sig := { parameters := [.int, .int], returnType := some .int }, accessFlags := 9, code := some k10c1 }
def k10c2 : Code := { maxStack := 2, maxLocals := 2, code := jdk_29_method_69_code, exceptionTable := #[], attributes := #[] }
def k10m2 : Method := { name := "min", desc := "(II)I", sig := { parameters := [.int, .int], returnType := some .int }, accessFlags := 9, code := some k10c2 }
/-- java/lang/Math -/
def k10 : Class := { plain "java/lang/Math" (some 0) with
  accessFlags := 49
  interfaces := #[]
  cf := some (fileOf pool10 1 #[.nestMembers #[98]] #[{ accessFlags := 2, nameIndex := 7, descriptorIndex := 8, attributes := #[] }, { accessFlags := 9, nameIndex := 198, descriptorIndex := 335, attributes := #[] }, { accessFlags := 9, nameIndex := 201, descriptorIndex := 335, attributes := #[] }] 49 4 #[] #[{ accessFlags := 25, nameIndex := 354, descriptorIndex := 339, attributes := #[] }, { accessFlags := 25, nameIndex := 358, descriptorIndex := 339, attributes := #[] }, { accessFlags := 25, nameIndex := 361, descriptorIndex := 339, attributes := #[] }, { accessFlags := 26, nameIndex := 364, descriptorIndex := 339, attributes := #[] }, { accessFlags := 26, nameIndex := 365, descriptorIndex := 339, attributes := #[] }, { accessFlags := 26, nameIndex := 172, descriptorIndex := 173, attributes := #[] }, { accessFlags := 26, nameIndex := 176, descriptorIndex := 173, attributes := #[] }, { accessFlags := 8, nameIndex := 344, descriptorIndex := 339, attributes := #[] }, { accessFlags := 8, nameIndex := 338, descriptorIndex := 339, attributes := #[] }, { accessFlags := 4120, nameIndex := 245, descriptorIndex := 246, attributes := #[] }])
  fields := #[{ name := "E", type := .double, accessFlags := 25, slot := 0, constantValue := 0 }, { name := "PI", type := .double, accessFlags := 25, slot := 1, constantValue := 0 }, { name := "TAU", type := .double, accessFlags := 25, slot := 2, constantValue := 0 }, { name := "DEGREES_TO_RADIANS", type := .double, accessFlags := 26, slot := 3, constantValue := 0 }, { name := "RADIANS_TO_DEGREES", type := .double, accessFlags := 26, slot := 4, constantValue := 0 }, { name := "negativeZeroFloatBits", type := .long, accessFlags := 26, slot := 5, constantValue := 0 }, { name := "negativeZeroDoubleBits", type := .long, accessFlags := 26, slot := 6, constantValue := 0 }, { name := "twoToTheDoubleScaleUp", type := .double, accessFlags := 8, slot := 7, constantValue := 0 }, { name := "twoToTheDoubleScaleDown", type := .double, accessFlags := 8, slot := 8, constantValue := 0 }, { name := "$assertionsDisabled", type := .boolean, accessFlags := 4120, slot := 9, constantValue := 0 }]
  methods := #[k10m0, k10m1, k10m2]
  instanceTypes := #[]
  staticTypes := #[.double, .double, .double, .double, .double, .long, .long, .double, .double, .boolean]
  resolved := Array.replicate 460 none
  statics := none }

def pool11 : Array CpInfo := pool [(3, .class_ 4), (0, u "java/lang/String"), (1, .class_ 8), (1, u "java/lang/Object"), (0, u "<init>"), (0, u "()V"), (0, .methodref 12 13), (0, .class_ 14), (0, .nameAndType 15 16), (0, u "java/lang/StringUTF16"), (0, u "newBytesLength"), (0, u "(I)I"), (3, .integer 1073741823), (23, .fieldref 12 45), (0, .nameAndType 46 47), (0, u "$assertionsDisabled"), (0, u "Z"), (0, .methodref 12 49), (0, .nameAndType 50 51), (0, u "length"), (0, u "([B)I"), (7, .fieldref 12 60), (0, .nameAndType 61 62), (0, u "HI_BYTE_SHIFT"), (0, u "I"), (0, .fieldref 12 64), (0, .nameAndType 65 62), (0, u "LO_BYTE_SHIFT"), (5, .methodref 12 72), (0, .nameAndType 73 74), (0, u "getChar"), (0, u "([BI)C"), (21, .methodref 12 97), (0, .nameAndType 98 99), (0, u "checkBoundsBeginEnd"), (0, u "(II[B)V"), (7, .methodref 12 108), (0, .nameAndType 109 110), (0, u "newBytesFor"), (0, u "(I)[B"), (0, .methodref 12 112), (0, .nameAndType 113 114), (0, u "putChar"), (0, u "([BII)V"), (0, .methodref 12 116), (0, .nameAndType 117 118), (0, u "compress"), (0, u "([CI[BII)I"), (0, .methodref 12 120), (0, .nameAndType 121 122), (0, u "toBytes"), (0, u "([CII)[B"), (60, .methodref 184 185), (0, .class_ 186), (0, .nameAndType 187 188), (0, u "java/lang/Math"), (0, u "min"), (0, u "(II)I"), (35, .methodref 184 225), (0, .nameAndType 226 188), (0, u "max"), (0, .integer 65536), (0, .methodref 12 229), (0, .nameAndType 230 231), (0, u "indexOfChar"), (0, u "([BIII)I"), (9, .methodref 3 242), (0, .nameAndType 98 243), (0, u "(III)V"), (0, .methodref 12 245), (0, .nameAndType 246 231), (0, u "indexOfCharUnsafe"), (14, u "coderFromArrayLen"), (0, u "([BI)B"), (5, u "indexOf"), (100, .class_ 371), (1, u "java/lang/StringUTF16$LinesSpliterator"), (58, u "MAX_LENGTH"), (196, .class_ 628), (0, u "java/lang/StringUTF16$CodePointsSpliterator"), (0, .class_ 630), (0, u "java/lang/StringUTF16$CharsSpliterator")] 4

def k11m0 : Method := { name := "<init>", desc := "()V", sig := { parameters := [], returnType := none }, accessFlags := 0, code := none }
def k11c1 : Code := { maxStack := 1, maxLocals := 1, code := jdk_52_method_2_code, exceptionTable := #[], attributes := #[] }
def k11m1 : Method := { name := "newBytesFor", desc := "(I)[B", sig := { parameters := [.int], returnType := some (.array .byte) }, accessFlags := 9, code := some k11c1 }
def k11c2 : Code := { maxStack := 4, maxLocals := 1, code := jdk_52_method_3_code, exceptionTable := #[], attributes := #[] }
def k11m2 : Method := { name := "newBytesLength", desc := "(I)I", sig := { parameters := [.int], returnType := some .int }, accessFlags := 9, code := some k11c2 }
def k11c3 : Code := { maxStack := 4, maxLocals := 3, code := jdk_52_method_4_code, exceptionTable := #[], attributes := #[] }
def k11m3 : Method := { name := "putChar", desc := "([BII)V", sig := { parameters := [(.array .byte), .int, .int], returnType := none }, accessFlags := 8, code := some k11c3 }
def k11c4 : Code := { maxStack := 3, maxLocals := 2, code := jdk_52_method_5_code, exceptionTable := #[], attributes := #[] }
def k11m4 : Method := { name := "getChar", desc := "([BI)C", sig := { parameters := [(.array .byte), .int], returnType := some .char }, accessFlags := 8, code := some k11c4 }
def k11c5 : Code := { maxStack := 2, maxLocals := 1, code := jdk_52_method_6_code, exceptionTable := #[], attributes := #[] }
def k11m5 : Method := { name := "length", desc := "([B)I", sig := { parameters := [(.array .byte)], returnType := some .int }, accessFlags := 9, code := some k11c5 }
def k11c6 : Code := { maxStack := 4, maxLocals := 5, code := jdk_52_method_14_code, exceptionTable := #[], attributes := #[] }
def k11m6 : Method := { name := "toBytes", desc := "([CII)[B", sig := { parameters := [(.array .char), .int, .int], returnType := some (.array .byte) }, accessFlags := 9, code := some k11c6 }
def k11c7 : Code := { maxStack := 2, maxLocals := 2, code := jdk_52_method_15_code, exceptionTable := #[], attributes := #[] }
def k11m7 : Method := { name := "coderFromArrayLen", desc := "([BI)B", sig := { parameters := [(.array .byte), .int], returnType := some .byte }, accessFlags := 8, code := some k11c7 }
def k11c8 : Code := { maxStack := 5, maxLocals := 6, code := jdk_52_method_16_code, exceptionTable := #[], attributes := #[] }
def k11m8 : Method := { name := "compress", desc := "([CII)[B", sig := { parameters := [(.array .char), .int, .int], returnType := some (.array .byte) }, accessFlags := 9, code := some k11c8 }
def k11c9 : Code := { maxStack := 3, maxLocals := 7, code := jdk_52_method_21_code, exceptionTable := #[], attributes := #[] }
def k11m9 : Method := { name := "compress", desc := "([CI[BII)I", sig := { parameters := [(.array .char), .int, (.array .byte), .int, .int], returnType := some .int }, accessFlags := 9, code := some k11c9 }
def k11c10 : Code := { maxStack := 4, maxLocals := 4, code := jdk_52_method_40_code, exceptionTable := #[], attributes := #[] }
def k11m10 : Method := { name := "indexOf", desc := "([BIII)I", sig := { parameters := [(.array .byte), .int, .int, .int], returnType := some .int }, accessFlags := 9, code := some k11c10 }
def k11c11 : Code := { maxStack := 4, maxLocals := 4, code := jdk_52_method_47_code, exceptionTable := #[], attributes := #[] }
def k11m11 : Method := { name := "indexOfChar", desc := "([BIII)I", sig := { parameters := [(.array .byte), .int, .int, .int], returnType := some .int }, accessFlags := 10, code := some k11c11 }
def k11c12 : Code := { maxStack := 2, maxLocals := 5, code := jdk_52_method_48_code, exceptionTable := #[], attributes := #[] }
def k11m12 : Method := { name := "indexOfCharUnsafe", desc := "([BIII)I", sig := { parameters := [(.array .byte), .int, .int, .int], returnType := some .int }, accessFlags := 10, code := some k11c12 }
def k11c13 : Code := { maxStack := 3, maxLocals := 3, code := jdk_52_method_93_code, exceptionTable := #[], attributes := #[] }
def k11m13 : Method := { name := "checkBoundsBeginEnd", desc := "(II[B)V", sig := { parameters := [.int, .int, (.array .byte)], returnType := none }, accessFlags := 9, code := some k11c13 }
/-- java/lang/StringUTF16 -/
def k11 : Class := { plain "java/lang/StringUTF16" (some 0) with
  accessFlags := 48
  interfaces := #[]
  cf := some (fileOf pool11 12 #[.nestMembers #[627, 629, 369]] #[{ accessFlags := 0, nameIndex := 9, descriptorIndex := 10, attributes := #[] }, { accessFlags := 9, nameIndex := 109, descriptorIndex := 110, attributes := #[] }, { accessFlags := 9, nameIndex := 15, descriptorIndex := 16, attributes := #[] }, { accessFlags := 8, nameIndex := 113, descriptorIndex := 114, attributes := #[] }, { accessFlags := 8, nameIndex := 73, descriptorIndex := 74, attributes := #[] }, { accessFlags := 9, nameIndex := 50, descriptorIndex := 51, attributes := #[] }, { accessFlags := 9, nameIndex := 121, descriptorIndex := 122, attributes := #[] }, { accessFlags := 8, nameIndex := 261, descriptorIndex := 262, attributes := #[] }, { accessFlags := 9, nameIndex := 117, descriptorIndex := 122, attributes := #[] }, { accessFlags := 9, nameIndex := 117, descriptorIndex := 118, attributes := #[] }, { accessFlags := 9, nameIndex := 268, descriptorIndex := 231, attributes := #[] }, { accessFlags := 10, nameIndex := 230, descriptorIndex := 231, attributes := #[] }, { accessFlags := 10, nameIndex := 246, descriptorIndex := 231, attributes := #[] }, { accessFlags := 9, nameIndex := 98, descriptorIndex := 99, attributes := #[] }] 48 6 #[] #[{ accessFlags := 26, nameIndex := 61, descriptorIndex := 62, attributes := #[] }, { accessFlags := 26, nameIndex := 65, descriptorIndex := 62, attributes := #[] }, { accessFlags := 24, nameIndex := 430, descriptorIndex := 62, attributes := #[] }, { accessFlags := 4120, nameIndex := 46, descriptorIndex := 47, attributes := #[] }])
  fields := #[{ name := "HI_BYTE_SHIFT", type := .int, accessFlags := 26, slot := 0, constantValue := 0 }, { name := "LO_BYTE_SHIFT", type := .int, accessFlags := 26, slot := 1, constantValue := 0 }, { name := "MAX_LENGTH", type := .int, accessFlags := 24, slot := 2, constantValue := 0 }, { name := "$assertionsDisabled", type := .boolean, accessFlags := 4120, slot := 3, constantValue := 0 }]
  methods := #[k11m0, k11m1, k11m2, k11m3, k11m4, k11m5, k11m6, k11m7, k11m8, k11m9, k11m10, k11m11, k11m12, k11m13]
  instanceTypes := #[]
  staticTypes := #[.int, .int, .int, .boolean]
  resolved := Array.replicate 635 none
  statics := some 1 }

def pool12 : Array CpInfo := pool [(2, .class_ 4), (1, u "java/lang/Object"), (0, u "<init>"), (0, u "()V"), (17, .class_ 26), (1, u "jdk/internal/util/Preconditions"), (20, u "checkFromToIndex"), (7, .class_ 56), (0, u "jdk/internal/util/Preconditions$4"), (57, .class_ 115), (0, u "jdk/internal/util/Preconditions$1"), (7, u "SIOOBE_FORMATTER"), (0, u "Ljava/util/function/BiFunction;"), (0, .class_ 126), (0, u "jdk/internal/util/Preconditions$2"), (3, u "AIOOBE_FORMATTER"), (0, .class_ 132), (0, u "jdk/internal/util/Preconditions$3"), (3, u "IOOBE_FORMATTER"), (46, u "(IIILjava/util/function/BiFunction;)I")] 10

def k12m0 : Method := { name := "<init>", desc := "()V", sig := { parameters := [], returnType := none }, accessFlags := 1, code := none }
def k12c1 : Code := { maxStack := 4, maxLocals := 4, code := jdk_41_method_12_code, exceptionTable := #[], attributes := #[] }
def k12m1 : Method := { name := "checkFromToIndex", desc := "(IIILjava/util/function/BiFunction;)I", sig := { parameters := [.int, .int, .int, (.object "java/util/function/BiFunction")], returnType := some .int }, accessFlags := 9, code := some k12c1 }
/-- jdk/internal/util/Preconditions -/
def k12 : Class := { plain "jdk/internal/util/Preconditions" (some 0) with
  accessFlags := 33
  interfaces := #[]
  cf := some (fileOf pool12 24 #[.nestMembers #[55, 131, 125, 114]] #[{ accessFlags := 1, nameIndex := 5, descriptorIndex := 6, attributes := #[] }, { accessFlags := 9, nameIndex := 47, descriptorIndex := 183, attributes := #[] }] 33 2 #[] #[{ accessFlags := 25, nameIndex := 123, descriptorIndex := 124, attributes := #[] }, { accessFlags := 25, nameIndex := 130, descriptorIndex := 124, attributes := #[] }, { accessFlags := 25, nameIndex := 136, descriptorIndex := 124, attributes := #[] }])
  fields := #[{ name := "SIOOBE_FORMATTER", type := (.object "java/util/function/BiFunction"), accessFlags := 25, slot := 0, constantValue := 0 }, { name := "AIOOBE_FORMATTER", type := (.object "java/util/function/BiFunction"), accessFlags := 25, slot := 1, constantValue := 0 }, { name := "IOOBE_FORMATTER", type := (.object "java/util/function/BiFunction"), accessFlags := 25, slot := 2, constantValue := 0 }]
  methods := #[k12m0, k12m1]
  instanceTypes := #[]
  staticTypes := #[(.object "java/util/function/BiFunction"), (.object "java/util/function/BiFunction"), (.object "java/util/function/BiFunction")]
  resolved := Array.replicate 194 none
  statics := some 2 }

def pool13 : Array CpInfo := pool [(9, u "<init>"), (6, .class_ 18), (1, u "java/lang/Object"), (0, u "()V"), (1, .class_ 23), (1, u "jdk/internal/util/ArraysSupport"), (0, u "LOG2_ARRAY_LONG_INDEX_SCALE"), (0, u "I"), (2, u "U"), (0, u "Ljdk/internal/misc/Unsafe;"), (8, u "BIG_ENDIAN"), (0, u "Z"), (8, u "LOG2_BYTE_BIT_SIZE"), (4, u "LOG2_ARRAY_INT_INDEX_SCALE"), (54, u "JLA"), (0, u "Ljdk/internal/access/JavaLangAccess;"), (11, u "LOG2_ARRAY_BOOLEAN_INDEX_SCALE"), (9, u "LOG2_ARRAY_BYTE_INDEX_SCALE"), (5, u "LOG2_ARRAY_CHAR_INDEX_SCALE"), (5, u "LOG2_ARRAY_SHORT_INDEX_SCALE"), (18, u "LOG2_ARRAY_FLOAT_INDEX_SCALE"), (24, u "LOG2_ARRAY_DOUBLE_INDEX_SCALE"), (89, u "T_BOOLEAN"), (2, u "T_CHAR"), (1, u "T_FLOAT"), (1, u "T_DOUBLE"), (1, u "T_BYTE"), (1, u "T_SHORT"), (1, u "T_INT"), (1, u "T_LONG"), (1, u "SOFT_MAX_ARRAY_LENGTH")] 83

def k13m0 : Method := { name := "<init>", desc := "()V", sig := { parameters := [], returnType := none }, accessFlags := 2, code := none }
/-- jdk/internal/util/ArraysSupport -/
def k13 : Class := { plain "jdk/internal/util/ArraysSupport" (some 0) with
  accessFlags := 33
  interfaces := #[]
  cf := some (fileOf pool13 21 #[] #[{ accessFlags := 2, nameIndex := 9, descriptorIndex := 19, attributes := #[] }] 33 16 #[] #[{ accessFlags := 24, nameIndex := 28, descriptorIndex := 29, attributes := #[] }, { accessFlags := 26, nameIndex := 38, descriptorIndex := 39, attributes := #[] }, { accessFlags := 25, nameIndex := 121, descriptorIndex := 25, attributes := #[] }, { accessFlags := 25, nameIndex := 131, descriptorIndex := 25, attributes := #[] }, { accessFlags := 25, nameIndex := 137, descriptorIndex := 25, attributes := #[] }, { accessFlags := 25, nameIndex := 143, descriptorIndex := 25, attributes := #[] }, { accessFlags := 25, nameIndex := 53, descriptorIndex := 25, attributes := #[] }, { accessFlags := 25, nameIndex := 24, descriptorIndex := 25, attributes := #[] }, { accessFlags := 25, nameIndex := 162, descriptorIndex := 25, attributes := #[] }, { accessFlags := 25, nameIndex := 187, descriptorIndex := 25, attributes := #[] }, { accessFlags := 26, nameIndex := 48, descriptorIndex := 25, attributes := #[] }, { accessFlags := 25, nameIndex := 277, descriptorIndex := 25, attributes := #[] }, { accessFlags := 25, nameIndex := 280, descriptorIndex := 25, attributes := #[] }, { accessFlags := 25, nameIndex := 282, descriptorIndex := 25, attributes := #[] }, { accessFlags := 25, nameIndex := 284, descriptorIndex := 25, attributes := #[] }, { accessFlags := 25, nameIndex := 286, descriptorIndex := 25, attributes := #[] }, { accessFlags := 25, nameIndex := 288, descriptorIndex := 25, attributes := #[] }, { accessFlags := 25, nameIndex := 290, descriptorIndex := 25, attributes := #[] }, { accessFlags := 25, nameIndex := 292, descriptorIndex := 25, attributes := #[] }, { accessFlags := 26, nameIndex := 108, descriptorIndex := 109, attributes := #[] }, { accessFlags := 25, nameIndex := 294, descriptorIndex := 25, attributes := #[] }])
  fields := #[{ name := "U", type := (.object "jdk/internal/misc/Unsafe"), accessFlags := 24, slot := 0, constantValue := 0 }, { name := "BIG_ENDIAN", type := .boolean, accessFlags := 26, slot := 1, constantValue := 0 }, { name := "LOG2_ARRAY_BOOLEAN_INDEX_SCALE", type := .int, accessFlags := 25, slot := 2, constantValue := 0 }, { name := "LOG2_ARRAY_BYTE_INDEX_SCALE", type := .int, accessFlags := 25, slot := 3, constantValue := 0 }, { name := "LOG2_ARRAY_CHAR_INDEX_SCALE", type := .int, accessFlags := 25, slot := 4, constantValue := 0 }, { name := "LOG2_ARRAY_SHORT_INDEX_SCALE", type := .int, accessFlags := 25, slot := 5, constantValue := 0 }, { name := "LOG2_ARRAY_INT_INDEX_SCALE", type := .int, accessFlags := 25, slot := 6, constantValue := 0 }, { name := "LOG2_ARRAY_LONG_INDEX_SCALE", type := .int, accessFlags := 25, slot := 7, constantValue := 0 }, { name := "LOG2_ARRAY_FLOAT_INDEX_SCALE", type := .int, accessFlags := 25, slot := 8, constantValue := 0 }, { name := "LOG2_ARRAY_DOUBLE_INDEX_SCALE", type := .int, accessFlags := 25, slot := 9, constantValue := 0 }, { name := "LOG2_BYTE_BIT_SIZE", type := .int, accessFlags := 26, slot := 10, constantValue := 0 }, { name := "T_BOOLEAN", type := .int, accessFlags := 25, slot := 11, constantValue := 0 }, { name := "T_CHAR", type := .int, accessFlags := 25, slot := 12, constantValue := 0 }, { name := "T_FLOAT", type := .int, accessFlags := 25, slot := 13, constantValue := 0 }, { name := "T_DOUBLE", type := .int, accessFlags := 25, slot := 14, constantValue := 0 }, { name := "T_BYTE", type := .int, accessFlags := 25, slot := 15, constantValue := 0 }, { name := "T_SHORT", type := .int, accessFlags := 25, slot := 16, constantValue := 0 }, { name := "T_INT", type := .int, accessFlags := 25, slot := 17, constantValue := 0 }, { name := "T_LONG", type := .int, accessFlags := 25, slot := 18, constantValue := 0 }, { name := "JLA", type := (.object "jdk/internal/access/JavaLangAccess"), accessFlags := 26, slot := 19, constantValue := 0 }, { name := "SOFT_MAX_ARRAY_LENGTH", type := .int, accessFlags := 25, slot := 20, constantValue := 0 }]
  methods := #[k13m0]
  instanceTypes := #[]
  staticTypes := #[(.object "jdk/internal/misc/Unsafe"), .boolean, .int, .int, .int, .int, .int, .int, .int, .int, .int, .int, .int, .int, .int, .int, .int, .int, .int, (.object "jdk/internal/access/JavaLangAccess"), .int]
  resolved := Array.replicate 378 none
  statics := none }

def pool14 : Array CpInfo := pool [(1, u "java/lang/Cloneable"), (0, .class_ 1), (0, u "java/lang/Object"), (0, .class_ 3)] 3

/-- java/lang/Cloneable -/
def k14 : Class := { plain "java/lang/Cloneable" (some 0) with
  accessFlags := 1537
  interfaces := #[]
  cf := some (fileOf pool14 2 #[] #[] 1537 4 #[] #[])
  fields := #[]
  methods := #[]
  instanceTypes := #[]
  staticTypes := #[]
  resolved := Array.replicate 8 none
  statics := none }

/-- the primitive byte -/
def k15 : Class := { plain "byte" none with kind := .primitive 'B', accessFlags := 0x411 }
/-- [B -/
def k16 : Class := { plain "[B" (some 0) with kind := .array 15 .byte, interfaces := #[14, 2], accessFlags := 1041 }

/-- the primitive char -/
def k17 : Class := { plain "char" none with kind := .primitive 'C', accessFlags := 0x411 }
/-- [C -/
def k18 : Class := { plain "[C" (some 0) with kind := .array 17 .char, interfaces := #[14, 2], accessFlags := 1041 }

/-- the primitive int -/
def k19 : Class := { plain "int" none with kind := .primitive 'I', accessFlags := 0x411 }
/-- [I -/
def k20 : Class := { plain "[I" (some 0) with kind := .array 19 .int, interfaces := #[14, 2], accessFlags := 1041 }

def heap : Heap := #[{ cls := 7, slots := #[.long 0, .int 1, .null, .int 0, .null, .int 0, .int 0], vm := .statics 7 },
  { cls := 11, slots := #[.int 0, .int 8, .int 0, .int 1], vm := .statics 11 },
  { cls := 12, slots := #[.null, .null, .null], vm := .statics 12 }]
def classes : Array Class := #[k0, k1, k2, k3, k4, k5, k6, k7, k8, k9, k10, k11, k12, k13, k14, k15, k16, k17, k18, k19, k20]
def interned : List (Array UInt16 × Addr) := []
def slotsUsed : Nat := 14
def theMethod : MethodId := ⟨1, 3⟩
def args0 : Array Value := #[.int 3, .int 6, .int 7, .int 1]
def aboutOver (below : List Frame) : State where
  vm := { classes := classes, interned := interned.toArray }
  heap := heap
  slotsUsed := slotsUsed
  threads := #[{ frames := .invoking theMethod args0 :: below }]
def below0 : List Frame := [.native { method := ⟨0, 0⟩, args := #[] }]
def about1 : State := aboutOver below0
def p0 : Program := .bare "" "" ""
def e0 : Env := launch0.env 0 0 0
theorem w_frames : about1.frames = Frame.invoking theMethod args0 :: below0 := rfl
set_option maxRecDepth 65536 in
theorem w_args : argsFit about1.vm theMethod args0 = true := by decide +kernel
set_option maxRecDepth 65536 in
theorem w_heap : heapFits about1 = true := by decide +kernel
set_option maxRecDepth 65536 in
theorem w_runnable : about1.curStatus? = some .runnable := by decide +kernel
set_option maxRecDepth 65536 in
theorem w_alone : about1.alone = true := by decide +kernel
set_option maxRecDepth 65536 in
theorem w_named : about1.methodNamed? x = some theMethod := by decide +kernel
set_option maxRecDepth 65536 in
theorem w_hears : about1.hears theMethod below0 = true := by decide +kernel
set_option maxRecDepth 65536 in
theorem w_ripe : about1.ripe theMethod args0 below0 = true := by decide +kernel
theorem w_running : about1.status = .running := rfl
set_option maxRecDepth 65536 in
theorem w_room : about1.hasRoom e0.platform room_1 = true :=
  launch0.hasRoom_least _ room_1 (by decide +kernel) (by decide +kernel) (by decide +kernel) (by decide +kernel) (by decide +kernel) (by decide +kernel)
theorem allAtoms_all (ts : List Jvm.Cond) (a : Array Jvm.Value) (st : Jvm.State) : (allAtoms ts).before a st = ts.all (fun c => c.before a st) := by
  induction ts with
  | nil => rfl
  | cons c t ih =>
    show (Jvm.Cond.and c (allAtoms t)).before a st = _
    rw [Jvm.Cond.before_and, ih, List.all_cons]
def words1 : List Jvm.Cond := Jvm.Cond.code x code maxLocals ret :: tables_1
/-- a 'code' word, met by the world's own term for the bytes: nothing is compared byte by byte -/
theorem code_word {y : MethodName} {bytes : ByteArray} {mx : Nat} {rt : Option FieldType} {a : Array Value} {s : State} {m : MethodId} {meth : Method} {c : Code} (h1 : s.methodNamed? y = some m) (h2 : s.vm.method? m = some meth) (h3 : meth.code = some c) (h4 : c.code = bytes)
    (h5 : (c.maxLocals == mx && c.exceptionTable.isEmpty && decide (c.maxStack ≤ mostOperands) && decide (meth.sig.returnType = rt) && !meth.locks && decide (parseMethodDescriptor y.desc = some meth.sig)) = true) : (Jvm.Cond.code y bytes mx rt).before a s = true := by
  simp only [Bool.and_eq_true, beq_iff_eq, Bool.not_eq_true', decide_eq_true_eq] at h5
  obtain ⟨⟨⟨⟨⟨g1, g2⟩, g3⟩, g4⟩, g5⟩, g6⟩ := h5
  simp [Cond.before, Cond.holds, Cond.value, h1, h2, h3, h4, g1, g2, g3, g4, g5, g6]
def isCode : Jvm.Cond → Bool
  | .code _ _ _ _ => true
  | _ => false
theorem all_split {L : List Jvm.Cond} {P : Jvm.Cond → Bool} (h1 : L.all (fun c => isCode c || P c) = true) (h2 : ∀ c ∈ L.filter isCode, P c = true) : L.all P = true := by
  refine List.all_eq_true.mpr fun c hc => ?_
  have h := List.all_eq_true.mp h1 c hc
  rcases Bool.eq_false_or_eq_true (isCode c) with hi | hi
  · exact h2 c (List.mem_filter.mpr ⟨hc, hi⟩)
  · simpa [hi] using h
set_option maxRecDepth 65536 in
theorem w_c0 : (Jvm.Cond.code x code maxLocals ret).before args0 about1 = true := code_word (m := ⟨1, 3⟩) (meth := k1m3) (c := k1c3) (by decide +kernel) rfl rfl rfl (by decide +kernel)
set_option maxRecDepth 65536 in
theorem w_c1 : (Jvm.Cond.code ({ cls := "com/example/multi_domain_access/multidomainaccess/NamesIsLocalNamePinLaw", name := "draw", desc := "(I)C" } : Jvm.MethodName) method_2_code (2 : Nat) (Option.some Jvm.ClassFile.FieldType.char)).before args0 about1 = true := code_word (m := ⟨1, 1⟩) (meth := k1m1) (c := k1c1) (by decide +kernel) rfl rfl rfl (by decide +kernel)
set_option maxRecDepth 65536 in
theorem w_c2 : (Jvm.Cond.code ({ cls := "java/lang/String", name := "<init>", desc := "([C)V" } : Jvm.MethodName) jdk_42_method_3_code (2 : Nat) (Option.none : Option Jvm.ClassFile.FieldType)).before args0 about1 = true := code_word (m := ⟨7, 1⟩) (meth := k7m1) (c := k7c1) (by decide +kernel) rfl rfl rfl (by decide +kernel)
set_option maxRecDepth 65536 in
theorem w_c3 : (Jvm.Cond.code ({ cls := "java/lang/String", name := "<init>", desc := "([CIILjava/lang/Void;)V" } : Jvm.MethodName) jdk_42_method_149_code (6 : Nat) (Option.none : Option Jvm.ClassFile.FieldType)).before args0 about1 = true := code_word (m := ⟨7, 5⟩) (meth := k7m5) (c := k7c5) (by decide +kernel) rfl rfl rfl (by decide +kernel)
set_option maxRecDepth 65536 in
theorem w_c4 : (Jvm.Cond.code ({ cls := "java/lang/Object", name := "<init>", desc := "()V" } : Jvm.MethodName) object_method_1_code (1 : Nat) (Option.none : Option Jvm.ClassFile.FieldType)).before args0 about1 = true := code_word (m := ⟨0, 0⟩) (meth := k0m0) (c := k0c0) (by decide +kernel) rfl rfl rfl (by decide +kernel)
set_option maxRecDepth 65536 in
theorem w_c5 : (Jvm.Cond.code ({ cls := "com/example/multi_domain_access/multidomainaccess/Names", name := "isLocalName", desc := "(Ljava/lang/String;)Z" } : Jvm.MethodName) prog_11_method_7_code (1 : Nat) (Option.some Jvm.ClassFile.FieldType.boolean)).before args0 about1 = true := code_word (m := ⟨8, 2⟩) (meth := k8m2) (c := k8c2) (by decide +kernel) rfl rfl rfl (by decide +kernel)
set_option maxRecDepth 65536 in
theorem w_c6 : (Jvm.Cond.code ({ cls := "java/lang/String", name := "indexOf", desc := "(I)I" } : Jvm.MethodName) jdk_42_method_79_code (2 : Nat) (Option.some Jvm.ClassFile.FieldType.int)).before args0 about1 = true := code_word (m := ⟨7, 3⟩) (meth := k7m3) (c := k7c3) (by decide +kernel) rfl rfl rfl (by decide +kernel)
set_option maxRecDepth 65536 in
theorem w_c7 : (Jvm.Cond.code ({ cls := "java/lang/String", name := "indexOf", desc := "(II)I" } : Jvm.MethodName) jdk_42_method_80_code (3 : Nat) (Option.some Jvm.ClassFile.FieldType.int)).before args0 about1 = true := code_word (m := ⟨7, 4⟩) (meth := k7m4) (c := k7c4) (by decide +kernel) rfl rfl rfl (by decide +kernel)
set_option maxRecDepth 65536 in
theorem w_c8 : (Jvm.Cond.code ({ cls := "java/lang/String", name := "isLatin1", desc := "()Z" } : Jvm.MethodName) jdk_42_method_154_code (1 : Nat) (Option.some Jvm.ClassFile.FieldType.boolean)).before args0 about1 = true := code_word (m := ⟨7, 7⟩) (meth := k7m7) (c := k7c7) (by decide +kernel) rfl rfl rfl (by decide +kernel)
set_option maxRecDepth 65536 in
theorem w_c9 : (Jvm.Cond.code ({ cls := "java/lang/String", name := "length", desc := "()I" } : Jvm.MethodName) jdk_42_method_54_code (1 : Nat) (Option.some Jvm.ClassFile.FieldType.int)).before args0 about1 = true := code_word (m := ⟨7, 2⟩) (meth := k7m2) (c := k7c2) (by decide +kernel) rfl rfl rfl (by decide +kernel)
set_option maxRecDepth 65536 in
theorem w_c10 : (Jvm.Cond.code ({ cls := "java/lang/String", name := "coder", desc := "()B" } : Jvm.MethodName) jdk_42_method_152_code (1 : Nat) (Option.some Jvm.ClassFile.FieldType.byte)).before args0 about1 = true := code_word (m := ⟨7, 6⟩) (meth := k7m6) (c := k7c6) (by decide +kernel) rfl rfl rfl (by decide +kernel)
set_option maxRecDepth 65536 in
theorem w_c11 : (Jvm.Cond.code ({ cls := "java/lang/StringLatin1", name := "indexOf", desc := "([BIII)I" } : Jvm.MethodName) jdk_43_method_22_code (4 : Nat) (Option.some Jvm.ClassFile.FieldType.int)).before args0 about1 = true := code_word (m := ⟨9, 2⟩) (meth := k9m2) (c := k9c2) (by decide +kernel) rfl rfl rfl (by decide +kernel)
set_option maxRecDepth 65536 in
theorem w_c12 : (Jvm.Cond.code ({ cls := "java/lang/StringLatin1", name := "canEncode", desc := "(I)Z" } : Jvm.MethodName) jdk_43_method_4_code (1 : Nat) (Option.some Jvm.ClassFile.FieldType.boolean)).before args0 about1 = true := code_word (m := ⟨9, 1⟩) (meth := k9m1) (c := k9c1) (by decide +kernel) rfl rfl rfl (by decide +kernel)
set_option maxRecDepth 65536 in
theorem w_c13 : (Jvm.Cond.code ({ cls := "java/lang/Math", name := "max", desc := "(II)I" } : Jvm.MethodName) jdk_29_method_65_code (2 : Nat) (Option.some Jvm.ClassFile.FieldType.int)).before args0 about1 = true := code_word (m := ⟨10, 1⟩) (meth := k10m1) (c := k10c1) (by decide +kernel) rfl rfl rfl (by decide +kernel)
set_option maxRecDepth 65536 in
theorem w_c14 : (Jvm.Cond.code ({ cls := "java/lang/Math", name := "min", desc := "(II)I" } : Jvm.MethodName) jdk_29_method_69_code (2 : Nat) (Option.some Jvm.ClassFile.FieldType.int)).before args0 about1 = true := code_word (m := ⟨10, 2⟩) (meth := k10m2) (c := k10c2) (by decide +kernel) rfl rfl rfl (by decide +kernel)
set_option maxRecDepth 65536 in
theorem w_c15 : (Jvm.Cond.code ({ cls := "com/example/multi_domain_access/multidomainaccess/Names", name := "isPrincipal", desc := "(Ljava/lang/String;)Z" } : Jvm.MethodName) prog_11_method_5_code (1 : Nat) (Option.some Jvm.ClassFile.FieldType.boolean)).before args0 about1 = true := code_word (m := ⟨8, 1⟩) (meth := k8m1) (c := k8c1) (by decide +kernel) rfl rfl rfl (by decide +kernel)
set_option maxRecDepth 65536 in
theorem w_c16 : (Jvm.Cond.code ({ cls := "java/lang/StringUTF16", name := "compress", desc := "([CII)[B" } : Jvm.MethodName) jdk_52_method_16_code (6 : Nat) (Option.some (Jvm.ClassFile.FieldType.array Jvm.ClassFile.FieldType.byte))).before args0 about1 = true := code_word (m := ⟨11, 8⟩) (meth := k11m8) (c := k11c8) (by decide +kernel) rfl rfl rfl (by decide +kernel)
set_option maxRecDepth 65536 in
theorem w_c17 : (Jvm.Cond.code ({ cls := "java/lang/StringUTF16", name := "compress", desc := "([CI[BII)I" } : Jvm.MethodName) jdk_52_method_21_code (7 : Nat) (Option.some Jvm.ClassFile.FieldType.int)).before args0 about1 = true := code_word (m := ⟨11, 9⟩) (meth := k11m9) (c := k11c9) (by decide +kernel) rfl rfl rfl (by decide +kernel)
set_option maxRecDepth 65536 in
theorem w_c18 : (Jvm.Cond.code ({ cls := "java/lang/StringUTF16", name := "coderFromArrayLen", desc := "([BI)B" } : Jvm.MethodName) jdk_52_method_15_code (2 : Nat) (Option.some Jvm.ClassFile.FieldType.byte)).before args0 about1 = true := code_word (m := ⟨11, 7⟩) (meth := k11m7) (c := k11c7) (by decide +kernel) rfl rfl rfl (by decide +kernel)
set_option maxRecDepth 65536 in
theorem w_c19 : (Jvm.Cond.code ({ cls := "com/example/multi_domain_access/multidomainaccess/NamesIsLocalNamePinLaw", name := "plain", desc := "(C)Z" } : Jvm.MethodName) method_3_code (1 : Nat) (Option.some Jvm.ClassFile.FieldType.boolean)).before args0 about1 = true := code_word (m := ⟨1, 2⟩) (meth := k1m2) (c := k1c2) (by decide +kernel) rfl rfl rfl (by decide +kernel)
set_option maxRecDepth 65536 in
theorem w_c20 : (Jvm.Cond.code ({ cls := "java/lang/StringLatin1", name := "indexOfChar", desc := "([BIII)I" } : Jvm.MethodName) jdk_43_method_23_code (6 : Nat) (Option.some Jvm.ClassFile.FieldType.int)).before args0 about1 = true := code_word (m := ⟨9, 3⟩) (meth := k9m3) (c := k9c3) (by decide +kernel) rfl rfl rfl (by decide +kernel)
set_option maxRecDepth 65536 in
theorem w_c21 : (Jvm.Cond.code ({ cls := "java/lang/StringUTF16", name := "toBytes", desc := "([CII)[B" } : Jvm.MethodName) jdk_52_method_14_code (5 : Nat) (Option.some (Jvm.ClassFile.FieldType.array Jvm.ClassFile.FieldType.byte))).before args0 about1 = true := code_word (m := ⟨11, 6⟩) (meth := k11m6) (c := k11c6) (by decide +kernel) rfl rfl rfl (by decide +kernel)
set_option maxRecDepth 65536 in
theorem w_c22 : (Jvm.Cond.code ({ cls := "java/lang/StringUTF16", name := "newBytesFor", desc := "(I)[B" } : Jvm.MethodName) jdk_52_method_2_code (1 : Nat) (Option.some (Jvm.ClassFile.FieldType.array Jvm.ClassFile.FieldType.byte))).before args0 about1 = true := code_word (m := ⟨11, 1⟩) (meth := k11m1) (c := k11c1) (by decide +kernel) rfl rfl rfl (by decide +kernel)
set_option maxRecDepth 65536 in
theorem w_c23 : (Jvm.Cond.code ({ cls := "java/lang/StringUTF16", name := "newBytesLength", desc := "(I)I" } : Jvm.MethodName) jdk_52_method_3_code (1 : Nat) (Option.some Jvm.ClassFile.FieldType.int)).before args0 about1 = true := code_word (m := ⟨11, 2⟩) (meth := k11m2) (c := k11c2) (by decide +kernel) rfl rfl rfl (by decide +kernel)
set_option maxRecDepth 65536 in
theorem w_c24 : (Jvm.Cond.code ({ cls := "java/lang/StringUTF16", name := "putChar", desc := "([BII)V" } : Jvm.MethodName) jdk_52_method_4_code (3 : Nat) (Option.none : Option Jvm.ClassFile.FieldType)).before args0 about1 = true := code_word (m := ⟨11, 3⟩) (meth := k11m3) (c := k11c3) (by decide +kernel) rfl rfl rfl (by decide +kernel)
set_option maxRecDepth 65536 in
theorem w_c25 : (Jvm.Cond.code ({ cls := "java/lang/StringUTF16", name := "getChar", desc := "([BI)C" } : Jvm.MethodName) jdk_52_method_5_code (2 : Nat) (Option.some Jvm.ClassFile.FieldType.char)).before args0 about1 = true := code_word (m := ⟨11, 4⟩) (meth := k11m4) (c := k11c4) (by decide +kernel) rfl rfl rfl (by decide +kernel)
set_option maxRecDepth 65536 in
theorem w_c26 : (Jvm.Cond.code ({ cls := "java/lang/StringUTF16", name := "indexOf", desc := "([BIII)I" } : Jvm.MethodName) jdk_52_method_40_code (4 : Nat) (Option.some Jvm.ClassFile.FieldType.int)).before args0 about1 = true := code_word (m := ⟨11, 10⟩) (meth := k11m10) (c := k11c10) (by decide +kernel) rfl rfl rfl (by decide +kernel)
set_option maxRecDepth 65536 in
theorem w_c27 : (Jvm.Cond.code ({ cls := "java/lang/StringUTF16", name := "indexOfChar", desc := "([BIII)I" } : Jvm.MethodName) jdk_52_method_47_code (4 : Nat) (Option.some Jvm.ClassFile.FieldType.int)).before args0 about1 = true := code_word (m := ⟨11, 11⟩) (meth := k11m11) (c := k11c11) (by decide +kernel) rfl rfl rfl (by decide +kernel)
set_option maxRecDepth 65536 in
theorem w_c28 : (Jvm.Cond.code ({ cls := "java/lang/StringUTF16", name := "checkBoundsBeginEnd", desc := "(II[B)V" } : Jvm.MethodName) jdk_52_method_93_code (3 : Nat) (Option.none : Option Jvm.ClassFile.FieldType)).before args0 about1 = true := code_word (m := ⟨11, 13⟩) (meth := k11m13) (c := k11c13) (by decide +kernel) rfl rfl rfl (by decide +kernel)
set_option maxRecDepth 65536 in
theorem w_c29 : (Jvm.Cond.code ({ cls := "java/lang/StringUTF16", name := "length", desc := "([B)I" } : Jvm.MethodName) jdk_52_method_6_code (1 : Nat) (Option.some Jvm.ClassFile.FieldType.int)).before args0 about1 = true := code_word (m := ⟨11, 5⟩) (meth := k11m5) (c := k11c5) (by decide +kernel) rfl rfl rfl (by decide +kernel)
set_option maxRecDepth 65536 in
theorem w_c30 : (Jvm.Cond.code ({ cls := "java/lang/String", name := "checkBoundsBeginEnd", desc := "(III)V" } : Jvm.MethodName) jdk_42_method_158_code (3 : Nat) (Option.none : Option Jvm.ClassFile.FieldType)).before args0 about1 = true := code_word (m := ⟨7, 8⟩) (meth := k7m8) (c := k7c8) (by decide +kernel) rfl rfl rfl (by decide +kernel)
set_option maxRecDepth 65536 in
theorem w_c31 : (Jvm.Cond.code ({ cls := "jdk/internal/util/Preconditions", name := "checkFromToIndex", desc := "(IIILjava/util/function/BiFunction;)I" } : Jvm.MethodName) jdk_41_method_12_code (4 : Nat) (Option.some Jvm.ClassFile.FieldType.int)).before args0 about1 = true := code_word (m := ⟨12, 1⟩) (meth := k12m1) (c := k12c1) (by decide +kernel) rfl rfl rfl (by decide +kernel)
set_option maxRecDepth 65536 in
theorem w_c32 : (Jvm.Cond.code ({ cls := "java/lang/StringUTF16", name := "indexOfCharUnsafe", desc := "([BIII)I" } : Jvm.MethodName) jdk_52_method_48_code (5 : Nat) (Option.some Jvm.ClassFile.FieldType.int)).before args0 about1 = true := code_word (m := ⟨11, 12⟩) (meth := k11m12) (c := k11c12) (by decide +kernel) rfl rfl rfl (by decide +kernel)
def codes1 : List Jvm.Cond := [Jvm.Cond.code x code maxLocals ret, Jvm.Cond.code ({ cls := "com/example/multi_domain_access/multidomainaccess/NamesIsLocalNamePinLaw", name := "draw", desc := "(I)C" } : Jvm.MethodName) method_2_code (2 : Nat) (Option.some Jvm.ClassFile.FieldType.char), Jvm.Cond.code ({ cls := "java/lang/String", name := "<init>", desc := "([C)V" } : Jvm.MethodName) jdk_42_method_3_code (2 : Nat) (Option.none : Option Jvm.ClassFile.FieldType), Jvm.Cond.code ({ cls := "java/lang/String", name := "<init>", desc := "([CIILjava/lang/Void;)V" } : Jvm.MethodName) jdk_42_method_149_code (6 : Nat) (Option.none : Option Jvm.ClassFile.FieldType), Jvm.Cond.code ({ cls := "java/lang/Object", name := "<init>", desc := "()V" } : Jvm.MethodName) object_method_1_code (1 : Nat) (Option.none : Option Jvm.ClassFile.FieldType), Jvm.Cond.code ({ cls := "com/example/multi_domain_access/multidomainaccess/Names", name := "isLocalName", desc := "(Ljava/lang/String;)Z" } : Jvm.MethodName) prog_11_method_7_code (1 : Nat) (Option.some Jvm.ClassFile.FieldType.boolean), Jvm.Cond.code ({ cls := "java/lang/String", name := "indexOf", desc := "(I)I" } : Jvm.MethodName) jdk_42_method_79_code (2 : Nat) (Option.some Jvm.ClassFile.FieldType.int), Jvm.Cond.code ({ cls := "java/lang/String", name := "indexOf", desc := "(II)I" } : Jvm.MethodName) jdk_42_method_80_code (3 : Nat) (Option.some Jvm.ClassFile.FieldType.int), Jvm.Cond.code ({ cls := "java/lang/String", name := "isLatin1", desc := "()Z" } : Jvm.MethodName) jdk_42_method_154_code (1 : Nat) (Option.some Jvm.ClassFile.FieldType.boolean), Jvm.Cond.code ({ cls := "java/lang/String", name := "length", desc := "()I" } : Jvm.MethodName) jdk_42_method_54_code (1 : Nat) (Option.some Jvm.ClassFile.FieldType.int), Jvm.Cond.code ({ cls := "java/lang/String", name := "coder", desc := "()B" } : Jvm.MethodName) jdk_42_method_152_code (1 : Nat) (Option.some Jvm.ClassFile.FieldType.byte), Jvm.Cond.code ({ cls := "java/lang/StringLatin1", name := "indexOf", desc := "([BIII)I" } : Jvm.MethodName) jdk_43_method_22_code (4 : Nat) (Option.some Jvm.ClassFile.FieldType.int), Jvm.Cond.code ({ cls := "java/lang/StringLatin1", name := "canEncode", desc := "(I)Z" } : Jvm.MethodName) jdk_43_method_4_code (1 : Nat) (Option.some Jvm.ClassFile.FieldType.boolean), Jvm.Cond.code ({ cls := "java/lang/Math", name := "max", desc := "(II)I" } : Jvm.MethodName) jdk_29_method_65_code (2 : Nat) (Option.some Jvm.ClassFile.FieldType.int), Jvm.Cond.code ({ cls := "java/lang/Math", name := "min", desc := "(II)I" } : Jvm.MethodName) jdk_29_method_69_code (2 : Nat) (Option.some Jvm.ClassFile.FieldType.int), Jvm.Cond.code ({ cls := "com/example/multi_domain_access/multidomainaccess/Names", name := "isPrincipal", desc := "(Ljava/lang/String;)Z" } : Jvm.MethodName) prog_11_method_5_code (1 : Nat) (Option.some Jvm.ClassFile.FieldType.boolean), Jvm.Cond.code ({ cls := "java/lang/StringUTF16", name := "compress", desc := "([CII)[B" } : Jvm.MethodName) jdk_52_method_16_code (6 : Nat) (Option.some (Jvm.ClassFile.FieldType.array Jvm.ClassFile.FieldType.byte)), Jvm.Cond.code ({ cls := "java/lang/StringUTF16", name := "compress", desc := "([CI[BII)I" } : Jvm.MethodName) jdk_52_method_21_code (7 : Nat) (Option.some Jvm.ClassFile.FieldType.int), Jvm.Cond.code ({ cls := "java/lang/StringUTF16", name := "coderFromArrayLen", desc := "([BI)B" } : Jvm.MethodName) jdk_52_method_15_code (2 : Nat) (Option.some Jvm.ClassFile.FieldType.byte), Jvm.Cond.code ({ cls := "com/example/multi_domain_access/multidomainaccess/NamesIsLocalNamePinLaw", name := "plain", desc := "(C)Z" } : Jvm.MethodName) method_3_code (1 : Nat) (Option.some Jvm.ClassFile.FieldType.boolean), Jvm.Cond.code ({ cls := "java/lang/StringLatin1", name := "indexOfChar", desc := "([BIII)I" } : Jvm.MethodName) jdk_43_method_23_code (6 : Nat) (Option.some Jvm.ClassFile.FieldType.int), Jvm.Cond.code ({ cls := "java/lang/StringUTF16", name := "toBytes", desc := "([CII)[B" } : Jvm.MethodName) jdk_52_method_14_code (5 : Nat) (Option.some (Jvm.ClassFile.FieldType.array Jvm.ClassFile.FieldType.byte)), Jvm.Cond.code ({ cls := "java/lang/StringUTF16", name := "newBytesFor", desc := "(I)[B" } : Jvm.MethodName) jdk_52_method_2_code (1 : Nat) (Option.some (Jvm.ClassFile.FieldType.array Jvm.ClassFile.FieldType.byte)), Jvm.Cond.code ({ cls := "java/lang/StringUTF16", name := "newBytesLength", desc := "(I)I" } : Jvm.MethodName) jdk_52_method_3_code (1 : Nat) (Option.some Jvm.ClassFile.FieldType.int), Jvm.Cond.code ({ cls := "java/lang/StringUTF16", name := "putChar", desc := "([BII)V" } : Jvm.MethodName) jdk_52_method_4_code (3 : Nat) (Option.none : Option Jvm.ClassFile.FieldType), Jvm.Cond.code ({ cls := "java/lang/StringUTF16", name := "getChar", desc := "([BI)C" } : Jvm.MethodName) jdk_52_method_5_code (2 : Nat) (Option.some Jvm.ClassFile.FieldType.char), Jvm.Cond.code ({ cls := "java/lang/StringUTF16", name := "indexOf", desc := "([BIII)I" } : Jvm.MethodName) jdk_52_method_40_code (4 : Nat) (Option.some Jvm.ClassFile.FieldType.int), Jvm.Cond.code ({ cls := "java/lang/StringUTF16", name := "indexOfChar", desc := "([BIII)I" } : Jvm.MethodName) jdk_52_method_47_code (4 : Nat) (Option.some Jvm.ClassFile.FieldType.int), Jvm.Cond.code ({ cls := "java/lang/StringUTF16", name := "checkBoundsBeginEnd", desc := "(II[B)V" } : Jvm.MethodName) jdk_52_method_93_code (3 : Nat) (Option.none : Option Jvm.ClassFile.FieldType), Jvm.Cond.code ({ cls := "java/lang/StringUTF16", name := "length", desc := "([B)I" } : Jvm.MethodName) jdk_52_method_6_code (1 : Nat) (Option.some Jvm.ClassFile.FieldType.int), Jvm.Cond.code ({ cls := "java/lang/String", name := "checkBoundsBeginEnd", desc := "(III)V" } : Jvm.MethodName) jdk_42_method_158_code (3 : Nat) (Option.none : Option Jvm.ClassFile.FieldType), Jvm.Cond.code ({ cls := "jdk/internal/util/Preconditions", name := "checkFromToIndex", desc := "(IIILjava/util/function/BiFunction;)I" } : Jvm.MethodName) jdk_41_method_12_code (4 : Nat) (Option.some Jvm.ClassFile.FieldType.int), Jvm.Cond.code ({ cls := "java/lang/StringUTF16", name := "indexOfCharUnsafe", desc := "([BIII)I" } : Jvm.MethodName) jdk_52_method_48_code (5 : Nat) (Option.some Jvm.ClassFile.FieldType.int)]
set_option maxRecDepth 65536 in
theorem codes_eq : words1.filter isCode = codes1 := rfl
theorem w_codes : ∀ c ∈ words1.filter isCode, c.before args0 about1 = true := by
  rw [codes_eq]
  intro c hc
  simp only [codes1, List.mem_cons, List.not_mem_nil, or_false] at hc
  rcases hc with rfl | rfl | rfl | rfl | rfl | rfl | rfl | rfl | rfl | rfl | rfl | rfl | rfl | rfl | rfl | rfl | rfl | rfl | rfl | rfl | rfl | rfl | rfl | rfl | rfl | rfl | rfl | rfl | rfl | rfl | rfl | rfl | rfl
  · exact w_c0
  · exact w_c1
  · exact w_c2
  · exact w_c3
  · exact w_c4
  · exact w_c5
  · exact w_c6
  · exact w_c7
  · exact w_c8
  · exact w_c9
  · exact w_c10
  · exact w_c11
  · exact w_c12
  · exact w_c13
  · exact w_c14
  · exact w_c15
  · exact w_c16
  · exact w_c17
  · exact w_c18
  · exact w_c19
  · exact w_c20
  · exact w_c21
  · exact w_c22
  · exact w_c23
  · exact w_c24
  · exact w_c25
  · exact w_c26
  · exact w_c27
  · exact w_c28
  · exact w_c29
  · exact w_c30
  · exact w_c31
  · exact w_c32
set_option maxRecDepth 65536 in
theorem w_t1 : (words1.take 24).all (fun c => isCode c || c.before args0 about1) = true := by decide +kernel
set_option maxRecDepth 65536 in
theorem w_t2 : ((words1.drop 24).take 24).all (fun c => isCode c || c.before args0 about1) = true := by decide +kernel
set_option maxRecDepth 65536 in
theorem w_t3 : (((words1.drop 24).drop 24).take 24).all (fun c => isCode c || c.before args0 about1) = true := by decide +kernel
set_option maxRecDepth 65536 in
theorem w_t4 : ((((words1.drop 24).drop 24).drop 24).take 24).all (fun c => isCode c || c.before args0 about1) = true := by decide +kernel
set_option maxRecDepth 65536 in
theorem w_t5 : (((((words1.drop 24).drop 24).drop 24).drop 24).take 24).all (fun c => isCode c || c.before args0 about1) = true := by decide +kernel
set_option maxRecDepth 65536 in
theorem w_t6 : (((((words1.drop 24).drop 24).drop 24).drop 24).drop 24).all (fun c => isCode c || c.before args0 about1) = true := by decide +kernel
theorem w_tables : (allAtoms (Jvm.Cond.code x code maxLocals ret :: tables_1)).before args0 about1 = true := by
  rw [allAtoms_all]
  show words1.all (fun c => c.before args0 about1) = true
  refine all_split ?_ w_codes
  rw [← List.take_append_drop 24 words1, List.all_append, w_t1, ← List.take_append_drop 24 (words1.drop 24), List.all_append, w_t2, ← List.take_append_drop 24 ((words1.drop 24).drop 24), List.all_append, w_t3, ← List.take_append_drop 24 (((words1.drop 24).drop 24).drop 24), List.all_append, w_t4, ← List.take_append_drop 24 ((((words1.drop 24).drop 24).drop 24).drop 24), List.all_append, w_t5, w_t6]
  rfl
set_option maxRecDepth 65536 in
theorem w_rest : rest_1_c.before args0 about1 = true := by decide +kernel
set_option maxRecDepth 65536 in
theorem w_case : (Jvm.Cond.and given_1 narrow_1).before args0 about1 = true := by decide +kernel
set_option maxRecDepth 65536 in
theorem w_consts : constsHeld consts_1 about1 := Jvm.Lit.constsHeldB_iff.mp (by decide +kernel)
theorem w_applies : (headSpec (Jvm.Cond.code x code maxLocals ret :: tables_1) room_1).applies x e0.platform about1 = true :=
  (Spec.applies_iff w_frames).mpr ⟨w_running, w_runnable, w_alone, w_named, w_hears, w_ripe, w_room, w_tables⟩
theorem atStart : AtStart classFile x code maxLocals ret World_1 tables_1 room_1 Calls_1 rest_1 Pre_1 launch0 p0 e0 about1 theMethod args0 below0 :=
  ⟨lists_1, trivial, launch0.admits_env _ _ _, launch0.least_env, fairChoices_fair.cas, fairChoices_fair.clock, w_frames, w_args, w_heap, w_applies, ⟨w_consts, trivial⟩, w_rest, w_case⟩
end start1
theorem witness_1 : WitnessClaimed_1 := ⟨start1.p0, start1.e0, start1.about1, start1.theMethod, start1.args0, start1.below0, start1.atStart⟩
end Jvm.Pilot.@@N@@
