import JvmDerived
import JvmDerived.Pilot.@@N@@Statement
import JvmDerived.Pilot.@@N@@Code
set_option linter.unusedVariables false
set_option linter.unusedSimpArgs false
namespace Jvm.Pilot.@@N@@.W
open Jvm Jvm.ClassFile Sem Op Lib Jvm.Free Jvm.Stand Jvm.LawKit Jvm.RoadKit
/-! own kit: a body's walk in one pass, backwards from its end ('Gl': from here the body comes to its end and there P holds) -/
section Walk
variable {p : Program} {l : Launch} {e : Env} {R : Room} {s : State} {m : MethodId} {args : Array Value} {below : List Frame} {meth : Method} {c : Code} {T T' : State} {locs : List Loc} {cells slots : Nat} {P : Option Value → Heap → List Loc → Prop} {C N : Nat} {Ls : Array Slot} {S : List Value} {pc pc' pc'' : Nat} {g : JFrame}
def Gl (p : Program) (e : Env) (below : List Frame) (s : State) (P : Option Value → Heap → List Loc → Prop) (C N : Nat) (T : State) (g : JFrame) : Prop :=
  ∃ (s₂ : State) (o : Outcome), Steps p.tables e below (T.setTop g) s₂ ∧ s₂.status = .running ∧ Ended s₂ below o ∧ ∃ v L, o = .returned v ∧ P v s₂.heap L ∧ FrameEnd s o s₂ L C N
theorem s1 (g' : JFrame) (h : ∀ t, Steps p.tables e below (T.setTop g') t → Steps p.tables e below (T.setTop g) t) (K : Gl p e below s P C N T g') : Gl p e below s P C N T g := by
  obtain ⟨s₂, o, h1, h2⟩ := K; exact ⟨s₂, o, h _ h1, h2⟩
theorem s2 (g' : JFrame) (h : ∀ t, Steps p.tables e below (T'.setTop g') t → Steps p.tables e below (T.setTop g) t) (K : Gl p e below s P C N T' g') : Gl p e below s P C N T g := by
  obtain ⟨s₂, o, h1, h2⟩ := K; exact ⟨s₂, o, h _ h1, h2⟩
theorem s3 (g' : JFrame) (h : Steps p.tables e below (T.setTop g) (T'.setTop g')) (K : Gl p e below s P C N T' g') : Gl p e below s P C N T g := by
  obtain ⟨s₂, o, h1, h2⟩ := K; exact ⟨s₂, o, h.trans h1, h2⟩
theorem cast {g' : JFrame} (q : g = g') (K : Gl p e below s P C N T g') : Gl p e below s P C N T g := q ▸ K
theorem fin (X : Stand p l e R s m args below meth c T locs cells slots) {v : Option Value} (hv : meth.sig.returnType = none → v = none) (hlk : meth.locks = false)
    (hs : ∀ fs, (∀ (f : JFrame) (acts : List Action), f.method = m → f.locked = none → f.entered = [] → (doReturn e (T.setTop f) acts v).1 = T.setFrames fs) → Steps p.tables e below (T.setTop g) (T.setFrames fs))
    (hP : P v T.heap locs) (hC : cells ≤ C) (hN : slots ≤ N) : Gl p e below s P C N T g := by
  obtain ⟨fs, hr, hrun, hended, hW, hsame⟩ := X.leave hv hlk
  exact ⟨_, _, hs fs hr, hrun, hended, _, _, rfl, hP, ⟨_, rfl⟩, hW, hsame.mono hC hN⟩
theorem retZ (X : Stand p l e R s m args below meth c T locs cells slots) (hx : p.tables.exec = Jvm.exec) (hlk : meth.locks = false) {z z' : Int32} {t : FieldType} (hret : meth.sig.returnType = some t) (ht : t = .boolean ∨ t = .byte ∨ t = .char ∨ t = .short)
    (hd : decode c.code pc = .ok (.ireturn, 1)) (hz : nar t z = z') (hP : P (some (.int z')) T.heap locs) (hC : cells ≤ C) (hN : slots ≤ N) : Gl p e below s P C N T (mkF m pc Ls (.int z :: S)) :=
  fin X (v := some (.int z')) (fun h => by rw [hret] at h; cases h) hlk (fun fs hr => by subst hz; exact RoadKit.retN X hx hret ht hd hr) hP hC hN
theorem retI (X : Stand p l e R s m args below meth c T locs cells slots) (hx : p.tables.exec = Jvm.exec) (hlk : meth.locks = false) {z : Int32} (hret : meth.sig.returnType = some .int)
    (hd : decode c.code pc = .ok (.ireturn, 1)) (hP : P (some (.int z)) T.heap locs) (hC : cells ≤ C) (hN : slots ≤ N) : Gl p e below s P C N T (mkF m pc Ls (.int z :: S)) :=
  fin X (v := some (.int z)) (fun h => by rw [hret] at h; cases h) hlk (fun fs hr => retOut X hx hret rfl (Or.inl ⟨rfl, Or.inl rfl, _, rfl⟩) hd hr) hP hC hN
theorem retL (X : Stand p l e R s m args below meth c T locs cells slots) (hx : p.tables.exec = Jvm.exec) (hlk : meth.locks = false) {z : Int64} (hret : meth.sig.returnType = some .long)
    (hd : decode c.code pc = .ok (.lreturn, 1)) (hP : P (some (.long z)) T.heap locs) (hC : cells ≤ C) (hN : slots ≤ N) : Gl p e below s P C N T (mkF m pc Ls (.long z :: S)) :=
  fin X (v := some (.long z)) (fun h => by rw [hret] at h; cases h) hlk (fun fs hr => retOut X hx hret rfl (Or.inr (Or.inl ⟨rfl, rfl, _, rfl⟩)) hd hr) hP hC hN
theorem retA (X : Stand p l e R s m args below meth c T locs cells slots) (hx : p.tables.exec = Jvm.exec) (hlk : meth.locks = false) {w : Value} {t : FieldType} (hret : meth.sig.returnType = some t) (ht : t.isReference = true) (hw : w.isRef = true) (hn : narrow t w = w)
    (hd : decode c.code pc = .ok (.areturn, 1)) (hP : P (some w) T.heap locs) (hC : cells ≤ C) (hN : slots ≤ N) : Gl p e below s P C N T (mkF m pc Ls (w :: S)) :=
  fin X (v := some w) (fun h => by rw [hret] at h; cases h) hlk (fun fs hr => retOut X hx hret hn (Or.inr (Or.inr (Or.inr (Or.inr ⟨rfl, ht, hw⟩)))) hd hr) hP hC hN
theorem ret0 (X : Stand p l e R s m args below meth c T locs cells slots) (hx : p.tables.exec = Jvm.exec) (hlk : meth.locks = false) (hret : meth.sig.returnType = none)
    (hd : decode c.code pc = .ok (.return_, 1)) (hP : P none T.heap locs) (hC : cells ≤ C) (hN : slots ≤ N) : Gl p e below s P C N T (mkF m pc Ls []) :=
  fin X (v := none) (fun _ => rfl) hlk (fun fs hr => X.returnOut hx hret hd hr) hP hC hN
/-! the branches -/
def cY : ClassFile.Cond → Int32 → Int32 → Prop
  | .eq, x, y => x = y
  | .ne, x, y => ¬ x = y
  | .lt, x, y => x < y
  | .ge, x, y => ¬ x < y
  | .gt, x, y => y < x
  | .le, x, y => ¬ y < x
def cN : ClassFile.Cond → Int32 → Int32 → Prop
  | .eq, x, y => ¬ x = y
  | .ne, x, y => x = y
  | .lt, x, y => ¬ x < y
  | .ge, x, y => x < y
  | .gt, x, y => ¬ y < x
  | .le, x, y => y < x
theorem cOr (cd : ClassFile.Cond) (x y : Int32) : (cY cd x y ∧ if_icmp.holds cd x y = true) ∨ (cN cd x y ∧ if_icmp.holds cd x y = false) := by
  cases cd with
  | eq => by_cases h : x = y; exact Or.inl ⟨h, (teq h).1⟩; exact Or.inr ⟨h, (feq h).1⟩
  | ne => by_cases h : x = y; exact Or.inr ⟨h, (teq h).2⟩; exact Or.inl ⟨h, (feq h).2⟩
  | lt => by_cases h : x < y; exact Or.inl ⟨h, (tlt h).1⟩; exact Or.inr ⟨h, (flt h).1⟩
  | ge => by_cases h : x < y; exact Or.inr ⟨h, (tlt h).2.1⟩; exact Or.inl ⟨h, (flt h).2.1⟩
  | gt => by_cases h : y < x; exact Or.inl ⟨h, (tlt h).2.2.1⟩; exact Or.inr ⟨h, (flt h).2.2.1⟩
  | le => by_cases h : y < x; exact Or.inr ⟨h, (tlt h).2.2.2⟩; exact Or.inl ⟨h, (flt h).2.2.2⟩
def lY : ClassFile.Cond → Int64 → Int64 → Prop
  | .eq, x, y => x = y
  | .ne, x, y => ¬ x = y
  | .lt, x, y => x < y
  | .ge, x, y => ¬ x < y
  | .gt, x, y => y < x
  | .le, x, y => ¬ y < x
def lN : ClassFile.Cond → Int64 → Int64 → Prop
  | .eq, x, y => ¬ x = y
  | .ne, x, y => x = y
  | .lt, x, y => ¬ x < y
  | .ge, x, y => x < y
  | .gt, x, y => ¬ y < x
  | .le, x, y => y < x
theorem lYc {cd : ClassFile.Cond} {x y : Int64} (h : cY cd (lcmpW x y) 0) : lY cd x y := by
  rw [lcW] at h
  cases cd with
  | eq => exact (lc_eq x y).mp h
  | ne => exact fun q => h ((lc_eq x y).mpr q)
  | lt => exact (lc_lt x y).mp h
  | ge => exact fun q => h ((lc_lt x y).mpr q)
  | gt => exact (lc_gt x y).mp h
  | le => exact fun q => h ((lc_gt x y).mpr q)
theorem lNc {cd : ClassFile.Cond} {x y : Int64} (h : cN cd (lcmpW x y) 0) : lN cd x y := by
  rw [lcW] at h
  cases cd with
  | eq => exact fun q => h ((lc_eq x y).mpr q)
  | ne => exact (lc_eq x y).mp h
  | lt => exact fun q => h ((lc_lt x y).mpr q)
  | ge => exact (lc_lt x y).mp h
  | gt => exact fun q => h ((lc_gt x y).mpr q)
  | le => exact (lc_gt x y).mp h
theorem icmp (X : Stand p l e R s m args below meth c T locs cells slots) (hx : p.tables.exec = Jvm.exec) {cd : ClassFile.Cond} {x y : Int32} {o : Int} (hd : decode c.code pc = .ok (.if_icmp cd o, 3)) (ho : 0 ≤ (pc : Int) + o) (hp : ((pc : Int) + o).toNat = pc') (hq : pc + 3 = pc'')
    (ky : cY cd x y → Gl p e below s P C N T (mkF m pc' Ls S)) (kn : cN cd x y → Gl p e below s P C N T (mkF m pc'' Ls S)) : Gl p e below s P C N T (mkF m pc Ls (.int y :: .int x :: S)) := by
  subst hq
  rcases cOr cd x y with ⟨h1, h2⟩ | ⟨h1, h2⟩
  · exact s1 _ (fun t k => XS.icmpYes X.here hx rfl (pc0 := pc) (pc' := pc') rfl hd rfl h2 ho hp k) (ky h1)
  · exact s1 _ (fun t k => XS.icmpNo X.here hx rfl hd rfl h2 k) (kn h1)
theorem ifc (X : Stand p l e R s m args below meth c T locs cells slots) (hx : p.tables.exec = Jvm.exec) {cd : ClassFile.Cond} {x : Int32} {o : Int} (hd : decode c.code pc = .ok (.ifCond cd o, 3)) (ho : 0 ≤ (pc : Int) + o) (hp : ((pc : Int) + o).toNat = pc') (hq : pc + 3 = pc'')
    (ky : cY cd x 0 → Gl p e below s P C N T (mkF m pc' Ls S)) (kn : cN cd x 0 → Gl p e below s P C N T (mkF m pc'' Ls S)) : Gl p e below s P C N T (mkF m pc Ls (.int x :: S)) := by
  subst hq
  rcases cOr cd x 0 with ⟨h1, h2⟩ | ⟨h1, h2⟩
  · exact s1 _ (fun t k => XS.ifYes X.here hx rfl (pc0 := pc) (pc' := pc') rfl hd rfl ((if0 _ _).trans h2) ho hp k) (ky h1)
  · exact s1 _ (fun t k => XS.ifNo X.here hx rfl hd rfl ((if0 _ _).trans h2) k) (kn h1)
theorem lif (X : Stand p l e R s m args below meth c T locs cells slots) (hx : p.tables.exec = Jvm.exec) {cd : ClassFile.Cond} {x y : Int64} {o : Int} (hd1 : decode c.code pc = .ok (.lcmp, 1)) {pc1 : Nat} (h1 : pc + 1 = pc1) (hd : decode c.code pc1 = .ok (.ifCond cd o, 3)) (ho : 0 ≤ (pc1 : Int) + o) (hp : ((pc1 : Int) + o).toNat = pc') (hq : pc1 + 3 = pc'')
    (ky : lY cd x y → Gl p e below s P C N T (mkF m pc' Ls S)) (kn : lN cd x y → Gl p e below s P C N T (mkF m pc'' Ls S)) : Gl p e below s P C N T (mkF m pc Ls (.long y :: .long x :: S)) := by
  subst h1
  exact s1 (mkF m (pc + 1) Ls (.int (lcmpW x y) :: S)) (fun t k => XS.lcmp X.here hx rfl hd1 rfl k) (ifc X hx hd ho hp hq (fun h => ky (lYc h)) (fun h => kn (lNc h)))
end Walk
/-! arrays of ints and of longs, by what each place holds -/
section Arrays
variable {Z : State} {h h' : Heap} {a b : Addr} {ty : FieldType} {n : Nat} {f : Nat → Int32} {q : Nat → Int64}
def up {α : Type} (f : Nat → α) (j : Nat) (v : α) : Nat → α := fun k => if k = j then v else f k
theorem up_same {α : Type} (f : Nat → α) (j : Nat) (v : α) : up f j v j = v := if_pos rfl
theorem up_other {α : Type} (f : Nat → α) {j k : Nat} (v : α) (h : ¬ k = j) : up f j v k = f k := if_neg h
def AI (Z : State) (h : Heap) (a : Addr) (ty : FieldType) (n : Nat) (f : Nat → Int32) : Prop := ∃ c : Cell, Arr Z h a c ty ∧ c.slots.size = n ∧ ∀ k, k < n → c.slots[k]? = some (.int (f k))
def AJ (Z : State) (h : Heap) (a : Addr) (n : Nat) (f : Nat → Int64) : Prop := ∃ c : Cell, Arr Z h a c .long ∧ c.slots.size = n ∧ ∀ k, k < n → c.slots[k]? = some (.long (f k))
theorem AI.lt (F : AI Z h a ty n f) : a < h.size := by obtain ⟨c, A, -⟩ := F; exact A.lt
theorem AJ.lt (F : AJ Z h a n q) : a < h.size := by obtain ⟨c, A, -⟩ := F; exact A.lt
theorem AI.ext (F : AI Z h a ty n f) (E : Ext h h') : AI Z h' a ty n f := by obtain ⟨c, A, r⟩ := F; exact ⟨c, A.ext E, r⟩
theorem AJ.ext (F : AJ Z h a n q) (E : Ext h h') : AJ Z h' a n q := by obtain ⟨c, A, r⟩ := F; exact ⟨c, A.ext E, r⟩
theorem AI.other {sl : Nat} {v : Value} (F : AI Z h b ty n f) (W : Wr h h' a sl v) (e : b ≠ a) : AI Z h' b ty n f := by obtain ⟨c, A, r⟩ := F; exact ⟨c, A.other W e, r⟩
theorem AJ.other {sl : Nat} {v : Value} (F : AJ Z h b n q) (W : Wr h h' a sl v) (e : b ≠ a) : AJ Z h' b n q := by obtain ⟨c, A, r⟩ := F; exact ⟨c, A.other W e, r⟩
theorem AI.keep {ws : List Addr} (F : AI Z h a ty n f) (K : Keep h h' ws) (e : a ∉ ws) : AI Z h' a ty n f := by obtain ⟨c, A, r⟩ := F; exact ⟨c, ⟨K.2.1 a c A.1 e, A.2⟩, r⟩
theorem AJ.keep {ws : List Addr} (F : AJ Z h a n q) (K : Keep h h' ws) (e : a ∉ ws) : AJ Z h' a n q := by obtain ⟨c, A, r⟩ := F; exact ⟨c, ⟨K.2.1 a c A.1 e, A.2⟩, r⟩
theorem slots_set {c : Cell} {j k : Nat} {v : Value} (hj : j < c.slots.size) : (c.setSlot j v).slots[k]? = if k = j then some v else c.slots[k]? := by
  by_cases e : k = j
  · subst e; simp [Cell.setSlot, hj]
  · simp only [Cell.setSlot, if_neg e]; exact Array.getElem?_setIfInBounds_ne (Ne.symm e)
theorem AI.set {j : Nat} {v : Int32} (F : AI Z h a ty n f) (W : Wr h h' a j (.int v)) (hj : j < n) : AI Z h' a ty n (up f j v) := by
  obtain ⟨c, A, r1, r2⟩ := F
  refine ⟨_, A.same W, by rw [sz_set]; exact r1, fun k hk => ?_⟩
  rw [slots_set (by omega)]
  by_cases e : k = j
  · rw [if_pos e, e, up_same]
  · rw [if_neg e, up_other _ _ e]; exact r2 k hk
theorem AJ.set {j : Nat} {v : Int64} (F : AJ Z h a n q) (W : Wr h h' a j (.long v)) (hj : j < n) : AJ Z h' a n (up q j v) := by
  obtain ⟨c, A, r1, r2⟩ := F
  refine ⟨_, A.same W, by rw [sz_set]; exact r1, fun k hk => ?_⟩
  rw [slots_set (by omega)]
  by_cases e : k = j
  · rw [if_pos e, e, up_same]
  · rw [if_neg e, up_other _ _ e]; exact r2 k hk
theorem clamp {z : Int32} (hz : z.toInt = n) : z.toNatClampNeg = n := by simp only [Int32.toNatClampNeg]; omega
theorem AI.new {k : ClassId} {z : Int32} (A : Arr Z h a (newA k ty z) ty) (hz : z.toInt = n) (hd : defaultValue ty = .int 0) : AI Z h a ty n (fun _ => 0) :=
  ⟨_, A, by rw [sz_new]; exact clamp hz, fun i hi => by rw [← clamp hz] at hi; simp [newA, hi, hd]⟩
theorem AJ.new {k : ClassId} {z : Int32} (A : Arr Z h a (newA k .long z) .long) (hz : z.toInt = n) : AJ Z h a n (fun _ => 0) :=
  ⟨_, A, by rw [sz_new]; exact clamp hz, fun i hi => by rw [← clamp hz] at hi; simp [newA, hi, defaultValue]⟩
theorem AI.congr {f' : Nat → Int32} (F : AI Z h a ty n f) (e : ∀ k, k < n → f' k = f k) : AI Z h a ty n f' := by obtain ⟨c, A, r1, r2⟩ := F; exact ⟨c, A, r1, fun k hk => by rw [e k hk]; exact r2 k hk⟩
theorem AJ.congr {f' : Nat → Int64} (F : AJ Z h a n q) (e : ∀ k, k < n → f' k = q k) : AJ Z h a n f' := by obtain ⟨c, A, r1, r2⟩ := F; exact ⟨c, A, r1, fun k hk => by rw [e k hk]; exact r2 k hk⟩
theorem inb {j : Int32} {k sz : Nat} (hj : j.toInt = k) (hk : k < sz) : ¬ (j < 0 ∨ sz ≤ j.toNatClampNeg) := by
  rw [clamp hj, Int32.lt_iff_toInt_lt, hj, show (0 : Int32).toInt = 0 from rfl]; omega
theorem szI {z : Int32} (hz : z.toInt = n) : Nat.toInt32 n = z := by
  rw [← Int32.toInt_inj, len_toInt (by have := z.toInt_lt; omega), hz]
end Arrays
section Steps
variable {p : Program} {l : Launch} {e : Env} {R : Room} {s : State} {m : MethodId} {args : Array Value} {below : List Frame} {meth : Method} {c : Code} {T T' : State} {locs : List Loc} {cells slots : Nat} {P : Option Value → Heap → List Loc → Prop} {C N : Nat} {Ls : Array Slot} {S : List Value} {pc pc' : Nat} {Z : State} {h : Heap} {a : Addr} {n n0 : Nat} {f : Nat → Int32} {q : Nat → Int64} {a0 : Array Value} {ty : FieldType}
theorem getf (X : Stand p l e R s m args below meth c T locs cells slots) (hx : p.tables.exec = Jvm.exec) (hZ : Z.Warmed39 s.vm) {own R0 O n d host : String} {index : Nat} (hown : s.vm.findClass own = some m.cls) (w : (Cond.fieldLink own index R0 n d).before a0 Z = true ∨ (Cond.fieldLinkNest own index R0 n d host).before a0 Z = true) (via : Via Z R0 O n d)
    (eT : T.heap = h) {v : Value} (F : Fld Z h a O n d v) (hd : decode c.code pc = .ok (.getfield index, 3)) (hq : pc + 3 = pc') (K : ∀ T', Stand p l e R s m args below meth c T' locs cells slots → T'.heap = h → Gl p e below s P C N T' (mkF m pc' Ls (v :: S))) : Gl p e below s P C N T (mkF m pc Ls (.ref a :: S)) := by
  subst hq
  obtain ⟨T', X', e', st⟩ := getF X hx hZ hown w via eT F (g := mkF m pc Ls (.ref a :: S)) rfl rfl hd
  exact s2 _ st (K T' X' e')
theorem gets (X : Stand p l e R s m args below meth c T locs cells slots) (hx : p.tables.exec = Jvm.exec) (hZ : Z.Warmed39 s.vm) {own R0 O n d host : String} {index : Nat} (hown : s.vm.findClass own = some m.cls) (w : (Cond.fieldLink own index R0 n d).before a0 Z = true ∨ (Cond.fieldLinkNest own index R0 n d host).before a0 Z = true) (via : Via Z R0 O n d)
    (eT : T.heap = h) {v : Value} (F : Sta Z h O n d v) (hd : decode c.code pc = .ok (.getstatic index, 3)) (hq : pc + 3 = pc') (K : ∀ T', Stand p l e R s m args below meth c T' locs cells slots → T'.heap = h → Gl p e below s P C N T' (mkF m pc' Ls (v :: S))) : Gl p e below s P C N T (mkF m pc Ls S) := by
  subst hq
  obtain ⟨T', X', e', st⟩ := getS2 X hx hZ hown w via eT F (g := mkF m pc Ls S) rfl hd
  exact s2 _ st (K T' X' e')
theorem putf (X : Stand p l e R s m args below meth c T locs cells slots) (hx : p.tables.exec = Jvm.exec) (hZ : Z.Warmed39 s.vm) {own R0 O n d host Cl : String} {index kk : Nat} (hown : s.vm.findClass own = some m.cls) (w : (Cond.fieldLink own index R0 n d).before a0 Z = true ∨ (Cond.fieldLinkNest own index R0 n d host).before a0 Z = true) (via : Via Z R0 O n d)
    (eT : T.heap = h) {v old : Value} (F : Fld Z h a O n d old) (E : Exa Z h a Cl) (L : (Cond.lays Cl O n d).before a0 Z = true ∨ ((Cond.laysFinal Cl O n d).before a0 Z = true ∧ own = O ∧ meth.name = "<init>")) (wi : (Cond.instantiable Cl kk).before a0 Z = true)
    (hty : parseFieldDescriptor d = some ty) (hn : narrow ty v = v) (hf : fits ty v = true) (N0 : Fr n0 locs) (ga : n0 ≤ a) (hd : decode c.code pc = .ok (.putfield index, 3)) (hq : pc + 3 = pc')
    (K : ∀ T' h' L', Stand p l e R s m args below meth c T' L' cells slots → T'.heap = h' → Wr h h' a (RoadKit.slotOf Z O n d) v → Fld Z h' a O n d v → Fr n0 L' → Gl p e below s P C N T' (mkF m pc' Ls S)) : Gl p e below s P C N T (mkF m pc Ls (v :: .ref a :: S)) := by
  subst hq
  obtain ⟨T', h', X', e', W, st⟩ := putF X hx hZ hown w via eT F E L wi hty hn hf (g := mkF m pc Ls (v :: .ref a :: S)) rfl rfl hd
  exact s2 _ st (K T' h' _ X' e' W (F.same W) (Fr.snoc X' N0 ga))
theorem newo (X : Stand p l e R s m args below meth c T locs cells slots) (hx : p.tables.exec = Jvm.exec) (hZ : Z.Warmed39 s.vm) {own Cl : String} {index n : Nat} (hown : s.vm.findClass own = some m.cls) (w : (Cond.classLink own index Cl).before a0 Z = true) (wi : (Cond.instantiable Cl n).before a0 Z = true) (wz : (Cond.initialized Cl).before a0 Z = true) (eT : T.heap = h)
    (hd : decode c.code pc = .ok (.new index, 3)) (hc : cells + 1 ≤ R.cells) (hl : slots + n ≤ R.slots) (hq : pc + 3 = pc')
    (K : ∀ T' h' a, Stand p l e R s m args below meth c T' locs (cells + 1) (slots + n) → T'.heap = h' → Ext h h' → a = h.size → Exa Z h' a Cl → (∀ {O nm d : String} {ty : FieldType}, Laid Z a0 Cl O nm d → parseFieldDescriptor d = some ty → Fld Z h' a O nm d (defaultValue ty)) → Gl p e below s P C N T' (mkF m pc' Ls (.ref a :: S))) : Gl p e below s P C N T (mkF m pc Ls S) := by
  subst hq
  obtain ⟨T', h', X', e', E, A, D, -, st⟩ := newO X hx hZ hown w wi wz eT (g := mkF m pc Ls S) rfl hd hc hl
  exact s2 _ st (K T' h' _ X' e' E rfl A D)
theorem newi (X : Stand p l e R s m args below meth c T locs cells slots) (hx : p.tables.exec = Jvm.exec) (hZ : Z.Warmed39 s.vm) {aty : ArrayType} (w : (Cond.arrayClass ty).before a0 Z = true) (hty : newarray.typeOf aty = ty) (hdv : defaultValue ty = .int 0) (eT : T.heap = h) {z : Int32} (hd : decode c.code pc = .ok (.newarray aty, 2)) (hz : z.toInt = n) {cap : Nat} (hcap : n ≤ cap) (hb : cap * 8 ≤ 536870912) (hc : cells + 1 ≤ R.cells) (hl : slots + cap ≤ R.slots) (hq : pc + 2 = pc')
    (K : ∀ T' h' a, Stand p l e R s m args below meth c T' locs (cells + 1) (slots + cap) → T'.heap = h' → Ext h h' → a = h.size → AI Z h' a ty n (fun _ => 0) → Gl p e below s P C N T' (mkF m pc' Ls (.ref a :: S))) : Gl p e below s P C N T (mkF m pc Ls (.int z :: S)) := by
  subst hq hty
  obtain ⟨T', h', k, X', e', E, A, st⟩ := newP X hx hZ w eT (g := mkF m pc Ls (.int z :: S)) rfl hd rfl (by rw [Int32.lt_iff_toInt_lt, hz, show (0 : Int32).toInt = 0 from rfl]; omega) (cap := cap) (by rw [clamp hz]; exact hcap) hb hc hl
  exact s2 _ st (K T' h' _ X' e' E rfl (AI.new A hz hdv))
theorem newj (X : Stand p l e R s m args below meth c T locs cells slots) (hx : p.tables.exec = Jvm.exec) (hZ : Z.Warmed39 s.vm) (w : (Cond.arrayClass .long).before a0 Z = true) (eT : T.heap = h) {z : Int32} (hd : decode c.code pc = .ok (.newarray .long, 2)) (hz : z.toInt = n) {cap : Nat} (hcap : n ≤ cap) (hb : cap * 8 ≤ 536870912) (hc : cells + 1 ≤ R.cells) (hl : slots + cap ≤ R.slots) (hq : pc + 2 = pc')
    (K : ∀ T' h' a, Stand p l e R s m args below meth c T' locs (cells + 1) (slots + cap) → T'.heap = h' → Ext h h' → a = h.size → AJ Z h' a n (fun _ => 0) → Gl p e below s P C N T' (mkF m pc' Ls (.ref a :: S))) : Gl p e below s P C N T (mkF m pc Ls (.int z :: S)) := by
  subst hq
  obtain ⟨T', h', k, X', e', E, A, st⟩ := newP X hx hZ (aty := .long) w eT (g := mkF m pc Ls (.int z :: S)) rfl hd rfl (by rw [Int32.lt_iff_toInt_lt, hz, show (0 : Int32).toInt = 0 from rfl]; omega) (cap := cap) (by rw [clamp hz]; exact hcap) hb hc hl
  exact s2 _ st (K T' h' _ X' e' E rfl (AJ.new A hz))
theorem ldi (X : Stand p l e R s m args below meth c T locs cells slots) (hx : p.tables.exec = Jvm.exec) (hZ : Z.Warmed39 s.vm) (eT : T.heap = h) (F : AI Z h a .int n f) {j : Int32} (k : Nat) (hj : j.toInt = k) (hk : k < n) (hd : decode c.code pc = .ok (.iaload, 1)) (hq : pc + 1 = pc')
    (K : Gl p e below s P C N T (mkF m pc' Ls (.int (f k) :: S))) : Gl p e below s P C N T (mkF m pc Ls (.int j :: .ref a :: S)) := by
  subst hq
  obtain ⟨cl, A, r1, r2⟩ := F
  exact s1 _ (fun t q => X.iaload hx (v := .int (f k)) (by rw [eT]; exact A.1) (State.isArrayOf_alike hZ.alike A.2.1) A.2.2 (inb hj (by omega)) (by rw [clamp hj]; exact r2 k hk) (g := mkF m pc Ls (.int j :: .ref a :: S)) rfl rfl hd t q) K
theorem ldz (X : Stand p l e R s m args below meth c T locs cells slots) (hx : p.tables.exec = Jvm.exec) (hZ : Z.Warmed39 s.vm) (eT : T.heap = h) (F : AI Z h a .boolean n f) {j : Int32} (k : Nat) (hj : j.toInt = k) (hk : k < n) (hd : decode c.code pc = .ok (.baload, 1)) (hq : pc + 1 = pc')
    (K : Gl p e below s P C N T (mkF m pc' Ls (.int (f k) :: S))) : Gl p e below s P C N T (mkF m pc Ls (.int j :: .ref a :: S)) := by
  subst hq
  obtain ⟨cl, A, r1, r2⟩ := F
  exact s1 _ (fun t q => X.baloadBooleans hx (v := .int (f k)) (by rw [eT]; exact A.1) (State.isArrayOf_alike hZ.alike A.2.1) A.2.2 (inb hj (by omega)) (by rw [clamp hj]; exact r2 k hk) (g := mkF m pc Ls (.int j :: .ref a :: S)) rfl rfl hd t q) K
theorem ldb (X : Stand p l e R s m args below meth c T locs cells slots) (hx : p.tables.exec = Jvm.exec) (hZ : Z.Warmed39 s.vm) (eT : T.heap = h) (F : AI Z h a .byte n f) {j : Int32} (k : Nat) (hj : j.toInt = k) (hk : k < n) (hd : decode c.code pc = .ok (.baload, 1)) (hq : pc + 1 = pc')
    (K : Gl p e below s P C N T (mkF m pc' Ls (.int (f k) :: S))) : Gl p e below s P C N T (mkF m pc Ls (.int j :: .ref a :: S)) := by
  subst hq
  obtain ⟨cl, A, r1, r2⟩ := F
  exact s1 _ (fun t q => X.baloadBytes hx (v := .int (f k)) (by rw [eT]; exact A.1) (State.isArrayOf_alike hZ.alike A.2.1) A.2.2 (inb hj (by omega)) (by rw [clamp hj]; exact r2 k hk) (g := mkF m pc Ls (.int j :: .ref a :: S)) rfl rfl hd t q) K
theorem ldj (X : Stand p l e R s m args below meth c T locs cells slots) (hx : p.tables.exec = Jvm.exec) (hZ : Z.Warmed39 s.vm) (eT : T.heap = h) (F : AJ Z h a n q) {j : Int32} (k : Nat) (hj : j.toInt = k) (hk : k < n) (hd : decode c.code pc = .ok (.laload, 1)) (hq : pc + 1 = pc')
    (K : Gl p e below s P C N T (mkF m pc' Ls (.long (q k) :: S))) : Gl p e below s P C N T (mkF m pc Ls (.int j :: .ref a :: S)) := by
  subst hq
  obtain ⟨cl, A, r1, r2⟩ := F
  exact s1 _ (fun t u => X.laload hx (v := .long (q k)) (by rw [eT]; exact A.1) (State.isArrayOf_alike hZ.alike A.2.1) A.2.2 (inb hj (by omega)) (by rw [clamp hj]; exact r2 k hk) (g := mkF m pc Ls (.int j :: .ref a :: S)) rfl rfl hd t u) K
theorem alen (X : Stand p l e R s m args below meth c T locs cells slots) (hx : p.tables.exec = Jvm.exec) (hZ : Z.Warmed39 s.vm) (eT : T.heap = h) (F : AI Z h a ty n f) {z : Int32} (hz : z.toInt = n) (hd : decode c.code pc = .ok (.arraylength, 1)) (hq : pc + 1 = pc')
    (K : Gl p e below s P C N T (mkF m pc' Ls (.int z :: S))) : Gl p e below s P C N T (mkF m pc Ls (.ref a :: S)) := by
  subst hq
  obtain ⟨cl, A, r1, r2⟩ := F
  exact s1 _ (fun t u => X.arraylength hx (by rw [eT]; exact A.1) (State.isArrayOf_alike hZ.alike A.2.1) (g := mkF m pc Ls (.ref a :: S)) rfl rfl hd t (by rw [r1, szI hz]; exact u)) K
theorem alenJ (X : Stand p l e R s m args below meth c T locs cells slots) (hx : p.tables.exec = Jvm.exec) (hZ : Z.Warmed39 s.vm) (eT : T.heap = h) (F : AJ Z h a n q) {z : Int32} (hz : z.toInt = n) (hd : decode c.code pc = .ok (.arraylength, 1)) (hq : pc + 1 = pc')
    (K : Gl p e below s P C N T (mkF m pc' Ls (.int z :: S))) : Gl p e below s P C N T (mkF m pc Ls (.ref a :: S)) := by
  subst hq
  obtain ⟨cl, A, r1, r2⟩ := F
  exact s1 _ (fun t u => X.arraylength hx (by rw [eT]; exact A.1) (State.isArrayOf_alike hZ.alike A.2.1) (g := mkF m pc Ls (.ref a :: S)) rfl rfl hd t (by rw [r1, szI hz]; exact u)) K
theorem sti (X : Stand p l e R s m args below meth c T locs cells slots) (hx : p.tables.exec = Jvm.exec) (hZ : Z.Warmed39 s.vm) (eT : T.heap = h) (F : AI Z h a .int n f) {j x : Int32} (k : Nat) (hj : j.toInt = k) (hk : k < n) (N0 : Fr n0 locs) (ga : n0 ≤ a) (hd : decode c.code pc = .ok (.iastore, 1)) (hq : pc + 1 = pc')
    (K : ∀ T' h' L', Stand p l e R s m args below meth c T' L' cells slots → T'.heap = h' → Wr h h' a k (.int x) → AI Z h' a .int n (up f k x) → Fr n0 L' → Gl p e below s P C N T' (mkF m pc' Ls S)) : Gl p e below s P C N T (mkF m pc Ls (.int x :: .int j :: .ref a :: S)) := by
  subst hq
  obtain ⟨cl, A, r1, r2⟩ := F
  obtain ⟨T', h', X', e', W, st⟩ := stI X hx hZ eT A (inb hj (by omega)) (g := mkF m pc Ls (.int x :: .int j :: .ref a :: S)) rfl rfl hd
  have N1 := Fr.snoc X' N0 ga
  rw [clamp hj] at W
  exact s2 _ st (K T' h' _ X' e' W (AI.set ⟨cl, A, r1, r2⟩ W hk) N1)
theorem stz (X : Stand p l e R s m args below meth c T locs cells slots) (hx : p.tables.exec = Jvm.exec) (hZ : Z.Warmed39 s.vm) (eT : T.heap = h) (F : AI Z h a .boolean n f) {j x x' : Int32} (hn : nar .boolean x = x') (k : Nat) (hj : j.toInt = k) (hk : k < n) (N0 : Fr n0 locs) (ga : n0 ≤ a) (hd : decode c.code pc = .ok (.bastore, 1)) (hq : pc + 1 = pc')
    (K : ∀ T' h' L', Stand p l e R s m args below meth c T' L' cells slots → T'.heap = h' → Wr h h' a k (.int x') → AI Z h' a .boolean n (up f k x') → Fr n0 L' → Gl p e below s P C N T' (mkF m pc' Ls S)) : Gl p e below s P C N T (mkF m pc Ls (.int x :: .int j :: .ref a :: S)) := by
  subst hq hn
  obtain ⟨cl, A, r1, r2⟩ := F
  obtain ⟨T', h', X', e', W, st⟩ := stZ X hx hZ eT A (inb hj (by omega)) (g := mkF m pc Ls (.int x :: .int j :: .ref a :: S)) rfl rfl hd
  have N1 := Fr.snoc X' N0 ga
  rw [clamp hj] at W
  exact s2 _ st (K T' h' _ X' e' W (AI.set ⟨cl, A, r1, r2⟩ W hk) N1)
theorem stb (X : Stand p l e R s m args below meth c T locs cells slots) (hx : p.tables.exec = Jvm.exec) (hZ : Z.Warmed39 s.vm) (eT : T.heap = h) (F : AI Z h a .byte n f) {j x x' : Int32} (hn : nar .byte x = x') (k : Nat) (hj : j.toInt = k) (hk : k < n) (N0 : Fr n0 locs) (ga : n0 ≤ a) (hd : decode c.code pc = .ok (.bastore, 1)) (hq : pc + 1 = pc')
    (K : ∀ T' h' L', Stand p l e R s m args below meth c T' L' cells slots → T'.heap = h' → Wr h h' a k (.int x') → AI Z h' a .byte n (up f k x') → Fr n0 L' → Gl p e below s P C N T' (mkF m pc' Ls S)) : Gl p e below s P C N T (mkF m pc Ls (.int x :: .int j :: .ref a :: S)) := by
  subst hq hn
  obtain ⟨cl, A, r1, r2⟩ := F
  obtain ⟨T', h', X', e', W, st⟩ := stB X hx hZ eT A (inb hj (by omega)) (g := mkF m pc Ls (.int x :: .int j :: .ref a :: S)) rfl rfl hd
  have N1 := Fr.snoc X' N0 ga
  rw [clamp hj] at W
  exact s2 _ st (K T' h' _ X' e' W (AI.set ⟨cl, A, r1, r2⟩ W hk) N1)
theorem stj (X : Stand p l e R s m args below meth c T locs cells slots) (hx : p.tables.exec = Jvm.exec) (hZ : Z.Warmed39 s.vm) (eT : T.heap = h) (F : AJ Z h a n q) {j : Int32} {x : Int64} (k : Nat) (hj : j.toInt = k) (hk : k < n) (N0 : Fr n0 locs) (ga : n0 ≤ a) (hd : decode c.code pc = .ok (.lastore, 1)) (hq : pc + 1 = pc')
    (K : ∀ T' h' L', Stand p l e R s m args below meth c T' L' cells slots → T'.heap = h' → Wr h h' a k (.long x) → AJ Z h' a n (up q k x) → Fr n0 L' → Gl p e below s P C N T' (mkF m pc' Ls S)) : Gl p e below s P C N T (mkF m pc Ls (.long x :: .int j :: .ref a :: S)) := by
  subst hq
  obtain ⟨cl, A, r1, r2⟩ := F
  obtain ⟨T', h', X', e', W, st⟩ := stJ X hx hZ eT A (inb hj (by omega)) (g := mkF m pc Ls (.long x :: .int j :: .ref a :: S)) rfl rfl hd
  have N1 := Fr.snoc X' N0 ga
  rw [clamp hj] at W
  exact s2 _ st (K T' h' _ X' e' W (AJ.set ⟨cl, A, r1, r2⟩ W hk) N1)
end Steps
end Jvm.Pilot.@@N@@.W
namespace Jvm.Pilot.@@N@@.W
open Jvm Jvm.ClassFile Sem Op Lib Jvm.Free Jvm.Stand Jvm.LawKit Jvm.RoadKit
/-! own kit, second part: int arrays that are cloned and copied -/
section Copy
variable {p : Program} {l : Launch} {e : Env} {R : Room} {s : State} {m : MethodId} {args : Array Value} {below : List Frame} {meth : Method} {c : Code} {T T' : State} {locs : List Loc} {cells slots : Nat} {P : Option Value → Heap → List Loc → Prop} {C N : Nat} {Ls : Array Slot} {S : List Value} {pc pc' : Nat} {Z : State} {h : Heap} {a b : Addr} {n n0 : Nat} {f q : Nat → Int32} {a0 : Array Value} {ty : FieldType}
theorem newie (X : Stand p l e R s m args below meth c T locs cells slots) (hx : p.tables.exec = Jvm.exec) (hZ : Z.Warmed39 s.vm) {aty : ArrayType} (w : (Cond.arrayClass ty).before a0 Z = true) (hty : newarray.typeOf aty = ty) (hdv : defaultValue ty = .int 0) (eT : T.heap = h) {z : Int32} (hd : decode c.code pc = .ok (.newarray aty, 2)) (hz : z.toInt = n) {cap : Nat} (hcap : n ≤ cap) (hb : cap * 8 ≤ 536870912) (hc : cells + 1 ≤ R.cells) (hl : slots + cap ≤ R.slots) {ad : String} (had : "[" ++ ty.toString = ad) (hq : pc + 2 = pc')
    (K : ∀ T' h' a, Stand p l e R s m args below meth c T' locs (cells + 1) (slots + cap) → T'.heap = h' → Ext h h' → a = h.size → AI Z h' a ty n (fun _ => 0) → Exa Z h' a ad → Gl p e below s P C N T' (mkF m pc' Ls (.ref a :: S))) : Gl p e below s P C N T (mkF m pc Ls (.int z :: S)) := by
  subst hq hty
  obtain ⟨T', h', k, X', e', E, A, E2, st⟩ := newPE X hx hZ w eT (g := mkF m pc Ls (.int z :: S)) rfl hd rfl (by rw [Int32.lt_iff_toInt_lt, hz, show (0 : Int32).toInt = 0 from rfl]; omega) (cap := cap) (by rw [clamp hz]; exact hcap) hb hc hl had
  exact s2 _ st (K T' h' _ X' e' E rfl (AI.new A hz hdv) E2)
theorem getD_map (n k : Nat) (g : Nat → Value) (d : Value) (hk : k < n) : ((List.range n).map g).getD k d = g k := by
  rw [List.getD_eq_getElem?_getD, List.getElem?_map, List.getElem?_range hk]; rfl
theorem AI.arv (F : AI Z h a .int n f) {z : Int32} (hz : z.toInt = n) : ∃ k, Arv Z h a k .int z ((List.range n).map fun i => .int (f i)) (.int 0) := by
  obtain ⟨cl, A, r1, r2⟩ := F
  refine ⟨cl.cls, cl, A, rfl, by rw [r1, clamp hz], by rw [Int32.lt_iff_toInt_lt, hz, show (0 : Int32).toInt = 0 from rfl]; omega, fun k hk => ?_, fun k hk => ?_⟩
  · rw [r1] at hk; rw [getD_map n k _ _ hk]; exact r2 k hk
  · rw [r1] at hk; rw [getD_map n k _ _ hk]; rfl
theorem AI.ofArv {k : ClassId} {z : Int32} {vs : List Value} {d : Value} (F : Arv Z h a k .int z vs d) (hz : z.toInt = n) (hv : ∀ i, i < n → vs.getD i d = .int (f i)) : AI Z h a .int n f := by
  obtain ⟨cl, A, -, r1, -, H, -⟩ := F
  rw [clamp hz] at r1
  exact ⟨cl, A, r1, fun i hi => by rw [H i (by omega), hv i hi]⟩
theorem cpi (X : Stand p l e R s m args below meth c T locs cells slots) (hx : p.tables.exec = Jvm.exec) (hZ : Z.Warmed39 s.vm) {own : String} {index : Nat} (hown : s.vm.findClass own = some m.cls)
    (w1 : (Cond.methodLink own index Jvm.Stand.acN).before a0 Z = true) (w2 : (Cond.native Jvm.Stand.acN).before a0 Z = true) (w3 : (Cond.static Jvm.Stand.acN).before a0 Z = true) (w4 : (Cond.initialized "java/lang/System").before a0 Z = true) (eT : T.heap = h)
    {k : Nat} {z z' nn : Int32} (A : AI Z h a .int n f) (hz : z.toInt = n) {nd : Nat} (B : AI Z h b .int nd q) (hz' : z'.toInt = nd) (hn : nn.toInt = k) (hk : k ≤ n) (hk' : k ≤ nd) (N0 : Fr n0 locs) (ge : n0 ≤ b)
    (hsize : Ls.size = c.maxLocals) (hd : decode c.code pc = .ok (.invokestatic index, 3)) (hf : 1 ≤ R.frames) {Wd : Nat} (hW : (S.map fun v => v.category).sum ≤ Wd) (hlo : Wd + 18 ≤ R.locals) (hq : pc + 3 = pc')
    (K : ∀ T' h' L', Stand p l e R s m args below meth c T' L' cells slots → T'.heap = h' → Fr n0 L' → Keep h h' [b] → AI Z h' b .int nd (fun i => if i < k then f i else q i) → Gl p e below s P C N T' (mkF m pc' Ls S)) :
    Gl p e below s P C N T (mkF m pc Ls (.int nn :: .int 0 :: .ref b :: .int 0 :: .ref a :: S)) := by
  subst hq
  obtain ⟨ka, VA⟩ := A.arv hz
  obtain ⟨kb, VB⟩ := B.arv hz'
  have c0 : (0 : Int32).toNatClampNeg = 0 := rfl
  have hnl : ¬ nn < 0 := by rw [Int32.lt_iff_toInt_lt, hn, show (0 : Int32).toInt = 0 from rfl]; omega
  obtain ⟨T', h', L', X', e', N', K', V', st⟩ := cpA X hx hZ hown w1 w2 w3 w4 eT VA VB (Or.inl ⟨rfl, rfl⟩) (sp := 0) (dp := 0) (nn := nn) (by decide) (by decide) hnl (by rw [c0, clamp hn, clamp hz]; omega) (by rw [c0, clamp hn, clamp hz']; omega) rfl (by rw [c0, clamp hn, List.length_map, List.length_range]; omega) N0 ge (g := mkF m pc Ls (.int nn :: .int 0 :: .ref b :: .int 0 :: .ref a :: S)) rfl hsize rfl hd hf (W := Wd) (by show 2 * 0 + _ ≤ _; omega) (by rw [show nativeFrameWords "java/lang/System" "arraycopy" 5 = 7 from rfl]; omega)
  refine s2 _ st (K T' h' L' X' e' N' K' (AI.ofArv V' hz' fun i hi => ?_))
  rw [c0, clamp hn, List.take_zero, List.nil_append, List.getD_eq_getElem?_getD]
  by_cases hik : i < k
  · rw [if_pos hik, List.getElem?_append_left (by rw [List.length_map, List.length_range]; exact hik), List.getElem?_map, List.getElem?_range hik]
    simp only [Option.map_some, Option.getD_some, Nat.zero_add]
    exact getD_map n i _ _ (by omega)
  · rw [if_neg hik, List.getElem?_append_right (by rw [List.length_map, List.length_range]; omega), List.length_map, List.length_range, List.getElem?_drop, Nat.zero_add, show k + (i - k) = i by omega, List.getElem?_map, List.getElem?_range hi]
    rfl
theorem clonei (X : Stand p l e R s m args below meth c T locs cells slots) (hx : p.tables.exec = Jvm.exec) (hZ : Z.Warmed39 s.vm) {own ad : String} {index : Nat} (hown : s.vm.findClass own = some m.cls)
    (w1 : (Cond.methodLink own index ⟨ad, "clone", "()Ljava/lang/Object;"⟩).before a0 Z = true) (w2 : (Cond.sameMethod ad "java/lang/Object" "clone" "()Ljava/lang/Object;").before a0 Z = true) (w3 : (Cond.native ⟨"java/lang/Object", "clone", "()Ljava/lang/Object;"⟩).before a0 Z = true)
    (w4 : (Cond.instanceMethod ⟨"java/lang/Object", "clone", "()Ljava/lang/Object;"⟩).before a0 Z = true) (w5 : (Cond.selects ad ⟨ad, "clone", "()Ljava/lang/Object;"⟩ ⟨"java/lang/Object", "clone", "()Ljava/lang/Object;"⟩).before a0 Z = true) (w6 : (Cond.castable ad "java/lang/Cloneable").before a0 Z = true)
    (eT : T.heap = h) (F : AI Z h a .int n f) (E : Exa Z h a ad) (hsize : Ls.size = c.maxLocals) (hd : decode c.code pc = .ok (.invokevirtual index, 3)) (hf : 1 ≤ R.frames) {Wd cap : Nat} (hW : (S.map fun v => v.category).sum ≤ Wd) (hl : Wd + 14 ≤ R.locals) (hcap : n ≤ cap) (hc : cells + 1 ≤ R.cells) (hsl : slots + cap ≤ R.slots) (hq : pc + 3 = pc')
    (K : ∀ T' h' b, Stand p l e R s m args below meth c T' locs (cells + 1) (slots + cap) → T'.heap = h' → Ext h h' → b = h.size → AI Z h' b .int n f → Exa Z h' b ad → Gl p e below s P C N T' (mkF m pc' Ls (.ref b :: S))) : Gl p e below s P C N T (mkF m pc Ls (.ref a :: S)) := by
  subst hq
  obtain ⟨cl, A, r1, r2⟩ := F
  obtain ⟨T', h', X', e', E', A', E2, st⟩ := cloneA X hx hZ hown w1 w2 w3 w4 w5 w6 eT A E (fitC_of A fun i hi v hv => by rw [r2 i (by omega)] at hv; cases hv; rfl) (g := mkF m pc Ls (.ref a :: S)) rfl hsize rfl hd hf (W := Wd) (cap := cap) (by show 2 * 0 + _ ≤ _; omega) hl (by omega) hc hsl
  exact s2 _ st (K T' h' _ X' e' E' rfl ⟨_, A', r1, r2⟩ E2)
theorem castc (X : Stand p l e R s m args below meth c T locs cells slots) (hx : p.tables.exec = Jvm.exec) (hZ : Z.Warmed39 s.vm) {own Kc : String} {index : Nat} (hown : s.vm.findClass own = some m.cls) (w : (Cond.classLink own index Kc).before a0 Z = true) (eT : T.heap = h) (F : Ins Z h a Kc true) (hd : decode c.code pc = .ok (.checkcast index, 3)) (hq : pc + 3 = pc')
    (K : ∀ T', Stand p l e R s m args below meth c T' locs cells slots → T'.heap = h → Gl p e below s P C N T' (mkF m pc' Ls (.ref a :: S))) : Gl p e below s P C N T (mkF m pc Ls (.ref a :: S)) := by
  subst hq
  obtain ⟨T', X', e', st⟩ := castY X hx hZ hown w eT F (g := mkF m pc Ls (.ref a :: S)) rfl rfl hd
  exact s2 _ st (K T' X' e')
end Copy
end Jvm.Pilot.@@N@@.W
namespace Jvm.Pilot.@@N@@.W
open Jvm Jvm.ClassFile Sem Op Lib Jvm.Free Jvm.Stand Jvm.LawKit Jvm.RoadKit
/-! own kit, third part: arrays of references -/
section Refs
variable {Z : State} {h h' : Heap} {a b : Addr} {ty : FieldType} {n : Nat} {f : Nat → Value} {O : ClassId → Prop}
def AR (Z : State) (h : Heap) (a : Addr) (ty : FieldType) (O : ClassId → Prop) (n : Nat) (f : Nat → Value) : Prop := ∃ c : Cell, Arr Z h a c ty ∧ O c.cls ∧ c.slots.size = n ∧ ∀ k, k < n → c.slots[k]? = some (f k)
theorem AR.lt (F : AR Z h a ty O n f) : a < h.size := by obtain ⟨c, A, -⟩ := F; exact A.lt
theorem AR.ext (F : AR Z h a ty O n f) (E : Ext h h') : AR Z h' a ty O n f := by obtain ⟨c, A, r⟩ := F; exact ⟨c, A.ext E, r⟩
theorem AR.other {sl : Nat} {v : Value} (F : AR Z h b ty O n f) (W : Wr h h' a sl v) (e : b ≠ a) : AR Z h' b ty O n f := by obtain ⟨c, A, r⟩ := F; exact ⟨c, A.other W e, r⟩
theorem AR.keep {ws : List Addr} (F : AR Z h a ty O n f) (K : Keep h h' ws) (e : a ∉ ws) : AR Z h' a ty O n f := by obtain ⟨c, A, r⟩ := F; exact ⟨c, ⟨K.2.1 a c A.1 e, A.2⟩, r⟩
theorem AR.set {j : Nat} {v : Value} (F : AR Z h a ty O n f) (W : Wr h h' a j v) (hj : j < n) : AR Z h' a ty O n (up f j v) := by
  obtain ⟨c, A, o, r1, r2⟩ := F
  refine ⟨_, A.same W, o, by rw [sz_set]; exact r1, fun k hk => ?_⟩
  rw [slots_set (by omega)]
  by_cases e : k = j
  · rw [if_pos e, e, up_same]
  · rw [if_neg e, up_other _ _ e]; exact r2 k hk
theorem AR.new {k : ClassId} {z : Int32} (A : Arr Z h a (newA k ty z) ty) (o : O k) (hz : z.toInt = n) (hd : defaultValue ty = .null) : AR Z h a ty O n (fun _ => .null) :=
  ⟨_, A, o, by rw [sz_new]; exact clamp hz, fun i hi => by rw [← clamp hz] at hi; simp [newA, hi, hd]⟩
theorem AR.sto {v : Value} (F : AR Z h a ty O n f) (hs : ∀ c : Cell, Arr Z h a c ty → O c.cls → Sto Z h a v) : Sto Z h a v := by obtain ⟨c, A, o, -⟩ := F; exact hs c A o
end Refs
section RSteps
variable {p : Program} {l : Launch} {e : Env} {R : Room} {s : State} {m : MethodId} {args : Array Value} {below : List Frame} {meth : Method} {c : Code} {T T' : State} {locs : List Loc} {cells slots : Nat} {P : Option Value → Heap → List Loc → Prop} {C N : Nat} {Ls : Array Slot} {S : List Value} {pc pc' : Nat} {Z : State} {h : Heap} {a : Addr} {n n0 : Nat} {f : Nat → Value} {a0 : Array Value} {ty : FieldType} {O : ClassId → Prop}
theorem newra (X : Stand p l e R s m args below meth c T locs cells slots) (hx : p.tables.exec = Jvm.exec) (hZ : Z.Warmed39 s.vm) {own Cl : String} {index : Nat} (hown : s.vm.findClass own = some m.cls) (hC : (FieldType.array ty).toString = Cl) (w1 : (Cond.classLink own index Cl).before a0 Z = true) (w2 : (Cond.arrayOver (.array ty)).before a0 Z = true)
    (eT : T.heap = h) {z : Int32} (hd : decode c.code pc = .ok (.anewarray index, 3)) (hz : z.toInt = n) {cap : Nat} (hcap : n ≤ cap) (hb : cap * 8 ≤ 536870912) (hc : cells + 1 ≤ R.cells) (hl : slots + cap ≤ R.slots) (hq : pc + 3 = pc')
    (K : ∀ T' h' a, Stand p l e R s m args below meth c T' locs (cells + 1) (slots + cap) → T'.heap = h' → Ext h h' → a = h.size → AR Z h' a (.array ty) (fun k => OvrA Z k ty Cl) n (fun _ => .null) → Gl p e below s P C N T' (mkF m pc' Ls (.ref a :: S))) : Gl p e below s P C N T (mkF m pc Ls (.int z :: S)) := by
  subst hq
  obtain ⟨T', h', k, X', e', E, A, -, o, st⟩ := newRA X hx hZ hown hC w1 w2 eT (g := mkF m pc Ls (.int z :: S)) rfl hd rfl (by rw [Int32.lt_iff_toInt_lt, hz, show (0 : Int32).toInt = 0 from rfl]; omega) (cap := cap) (by rw [clamp hz]; exact hcap) hb hc hl rfl
  exact s2 _ st (K T' h' _ X' e' E rfl (AR.new A o hz rfl))
theorem newr (X : Stand p l e R s m args below meth c T locs cells slots) (hx : p.tables.exec = Jvm.exec) (hZ : Z.Warmed39 s.vm) {own Cl : String} {index : Nat} (hown : s.vm.findClass own = some m.cls) (w1 : (Cond.classLink own index Cl).before a0 Z = true) (w2 : (Cond.arrayOver (.object Cl)).before a0 Z = true)
    (eT : T.heap = h) {z : Int32} (hd : decode c.code pc = .ok (.anewarray index, 3)) (hz : z.toInt = n) {cap : Nat} (hcap : n ≤ cap) (hb : cap * 8 ≤ 536870912) (hc : cells + 1 ≤ R.cells) (hl : slots + cap ≤ R.slots) (hq : pc + 3 = pc')
    (K : ∀ T' h' a, Stand p l e R s m args below meth c T' locs (cells + 1) (slots + cap) → T'.heap = h' → Ext h h' → a = h.size → AR Z h' a (.object Cl) (fun k => Ovr Z k Cl) n (fun _ => .null) → Gl p e below s P C N T' (mkF m pc' Ls (.ref a :: S))) : Gl p e below s P C N T (mkF m pc Ls (.int z :: S)) := by
  subst hq
  obtain ⟨T', h', k, X', e', E, A, o, st⟩ := newR X hx hZ hown w1 w2 eT (g := mkF m pc Ls (.int z :: S)) rfl hd rfl (by rw [Int32.lt_iff_toInt_lt, hz, show (0 : Int32).toInt = 0 from rfl]; omega) (cap := cap) (by rw [clamp hz]; exact hcap) hb hc hl
  exact s2 _ st (K T' h' _ X' e' E rfl (AR.new A o hz rfl))
theorem ldr (X : Stand p l e R s m args below meth c T locs cells slots) (hx : p.tables.exec = Jvm.exec) (hZ : Z.Warmed39 s.vm) (eT : T.heap = h) (F : AR Z h a ty O n f) (hty : ty.isReference = true) {j : Int32} (k : Nat) (hj : j.toInt = k) (hk : k < n) (hd : decode c.code pc = .ok (.aaload, 1)) (hq : pc + 1 = pc')
    (K : Gl p e below s P C N T (mkF m pc' Ls (f k :: S))) : Gl p e below s P C N T (mkF m pc Ls (.int j :: .ref a :: S)) := by
  subst hq
  obtain ⟨cl, A, -, r1, r2⟩ := F
  exact s1 _ (fun t q => X.aaload hx (v := f k) (by rw [eT]; exact A.1) (State.isArrayOf_alike hZ.alike A.2.1) hty A.2.2 (inb hj (by omega)) (by rw [clamp hj]; exact r2 k hk) (g := mkF m pc Ls (.int j :: .ref a :: S)) rfl rfl hd t q) K
theorem alenR (X : Stand p l e R s m args below meth c T locs cells slots) (hx : p.tables.exec = Jvm.exec) (hZ : Z.Warmed39 s.vm) (eT : T.heap = h) (F : AR Z h a ty O n f) {z : Int32} (hz : z.toInt = n) (hd : decode c.code pc = .ok (.arraylength, 1)) (hq : pc + 1 = pc')
    (K : Gl p e below s P C N T (mkF m pc' Ls (.int z :: S))) : Gl p e below s P C N T (mkF m pc Ls (.ref a :: S)) := by
  subst hq
  obtain ⟨cl, A, -, r1, r2⟩ := F
  exact s1 _ (fun t u => X.arraylength hx (by rw [eT]; exact A.1) (State.isArrayOf_alike hZ.alike A.2.1) (g := mkF m pc Ls (.ref a :: S)) rfl rfl hd t (by rw [r1, szI hz]; exact u)) K
theorem str (X : Stand p l e R s m args below meth c T locs cells slots) (hx : p.tables.exec = Jvm.exec) (hZ : Z.Warmed39 s.vm) (eT : T.heap = h) (F : AR Z h a ty O n f) (hty : ty.isReference = true) {j : Int32} {v : Value} (hs : Sto Z h a v) (k : Nat) (hj : j.toInt = k) (hk : k < n) (N0 : Fr n0 locs) (ga : n0 ≤ a) (hd : decode c.code pc = .ok (.aastore, 1)) (hq : pc + 1 = pc')
    (K : ∀ T' h' L', Stand p l e R s m args below meth c T' L' cells slots → T'.heap = h' → Wr h h' a k v → AR Z h' a ty O n (up f k v) → Fr n0 L' → Gl p e below s P C N T' (mkF m pc' Ls S)) : Gl p e below s P C N T (mkF m pc Ls (v :: .int j :: .ref a :: S)) := by
  subst hq
  obtain ⟨cl, A, o, r1, r2⟩ := F
  obtain ⟨T', h', X', e', W, st⟩ := stR X hx hZ eT A (inb hj (by omega)) hty hs (g := mkF m pc Ls (v :: .int j :: .ref a :: S)) rfl rfl hd
  have N1 := Fr.snoc X' N0 ga
  rw [clamp hj] at W
  exact s2 _ st (K T' h' _ X' e' W (AR.set ⟨cl, A, o, r1, r2⟩ W hk) N1)
theorem privSel {Cl : String} {k : Nat} {y : MethodName} (hZ : Z.Warmed39 s.vm) (wi : (Cond.instantiable Cl k).before a0 Z = true) (wp : (Cond.privateMethod y).before a0 Z = true) (wn : (Cond.instanceMethod y).before a0 Z = true) (hyc : y.cls = Cl) (hy : y.cls ≠ "java/lang/invoke/MethodHandle" ∧ y.cls ≠ "java/lang/invoke/VarHandle") : (Cond.selects y.cls y y).before args s = true := by
  subst hyc
  obtain ⟨c, k, h1, h2, h3, h4, -⟩ := Cond.instantiable_spec (mvT hZ wi (args := args) : (Cond.instantiable y.cls k).before args s = true)
  exact selects_self_of_private h1 h2 (Bool.or_eq_false_iff.mp h4).1 (Cond.privateMethod_at (mvP hZ wp (args := args))) (mvT hZ wn) hy
theorem dupX2 {tb : Tables} [Ours tb] {e : Env} {below : List Frame} {T target : State} {m : MethodId} {c : Code} {g : JFrame} (h : At T m c below) (hx : tb.exec = Jvm.exec) (hg : g.method = m) {x y z : Value} {rest : List Value} (hd : decode c.code g.pc = .ok (.dup_x2, 1)) (hs : g.stack = x :: y :: z :: rest) (hc : x.category = 1) (hc' : y.category = 1) (hc'' : z.category = 1)
    (hr : Steps tb e below (T.setTop { g with pc := g.pc + 1, stack := x :: y :: z :: x :: rest }) target) : Steps tb e below (T.setTop g) target := by
  subst hg
  jvm_step h [h.top, hx, hd, hs, hc, hc', hc'']
  first | exact hr | exact ⟨_, _, ⟨rfl, rfl⟩, hc'', hr⟩ | exact ⟨_, _, rfl, hc'', hr⟩ | simpa using hr
end RSteps
end Jvm.Pilot.@@N@@.W
namespace Jvm.Pilot.@@N@@
open Jvm Jvm.ClassFile Sem Op Lib Jvm.Free Jvm.Stand Jvm.LawKit Jvm.RoadKit Bundle Jvm.Pilot.@@N@@.Jvm.D
def own_ord (ao zi zd zs zm zt zl zh : Addr) : Prop := ao ≠ zi ∧ ao ≠ zd ∧ ao ≠ zs ∧ ao ≠ zm ∧ ao ≠ zt ∧ ao ≠ zl ∧ ao ≠ zh ∧ zi ≠ zd ∧ zi ≠ zs ∧ zi ≠ zm ∧ zi ≠ zt ∧ zi ≠ zl ∧ zi ≠ zh ∧ zd ≠ zs ∧ zd ≠ zm ∧ zd ≠ zt ∧ zd ≠ zl ∧ zd ≠ zh ∧ zs ≠ zm ∧ zs ≠ zt ∧ zs ≠ zl ∧ zs ≠ zh ∧ zm ≠ zt ∧ zm ≠ zl ∧ zm ≠ zh ∧ zt ≠ zl ∧ zt ≠ zh ∧ zl ≠ zh
def own_ge (n : Nat) (ao zi zd zs zm zt zl zh : Addr) : Prop := n ≤ ao ∧ n ≤ zi ∧ n ≤ zd ∧ n ≤ zs ∧ n ≤ zm ∧ n ≤ zt ∧ n ≤ zl ∧ n ≤ zh
def own_nb (zb : Addr) (ao zi zd zs zm zt zl zh : Addr) : Prop := zb ≠ ao ∧ zb ≠ zi ∧ zb ≠ zd ∧ zb ≠ zs ∧ zb ≠ zm ∧ zb ≠ zt ∧ zb ≠ zl ∧ zb ≠ zh
def own_DG (Z : State) (h : Heap) (ao zi zd zs zm zt zl zh : Addr) (xpc xcc : Int32) (fi fs : Nat → Value) (fd : Nat → Int32) (fl fh : Nat → Int64) : Prop := ∃ fm ft : Nat → Int32, Exa Z h ao "com/example/tempora/tempora/DistanceGraph" ∧ Fld Z h ao "com/example/tempora/tempora/DistanceGraph" "incident" "[[I" (.ref zi) ∧ Fld Z h ao "com/example/tempora/tempora/DistanceGraph" "degree" "[I" (.ref zd) ∧ Fld Z h ao "com/example/tempora/tempora/DistanceGraph" "status" "[Lcom/example/tempora/tempora/PointStatus;" (.ref zs) ∧ Fld Z h ao "com/example/tempora/tempora/DistanceGraph" "from" "[I" (.ref zm) ∧ Fld Z h ao "com/example/tempora/tempora/DistanceGraph" "to" "[I" (.ref zt) ∧ Fld Z h ao "com/example/tempora/tempora/DistanceGraph" "lo" "[J" (.ref zl) ∧ Fld Z h ao "com/example/tempora/tempora/DistanceGraph" "hi" "[J" (.ref zh) ∧ Fld Z h ao "com/example/tempora/tempora/DistanceGraph" "pointCount" "I" (.int xpc) ∧ Fld Z h ao "com/example/tempora/tempora/DistanceGraph" "freeCount" "I" (.int (0 : Int32)) ∧ Fld Z h ao "com/example/tempora/tempora/DistanceGraph" "constraintCount" "I" (.int xcc) ∧ W.AR Z h zi (.array .int) (fun k => OvrA Z k .int "[I") 8 fi ∧ W.AI Z h zd .int 8 fd ∧ W.AR Z h zs (.object "com/example/tempora/tempora/PointStatus") (fun k => Ovr Z k "com/example/tempora/tempora/PointStatus") 8 fs ∧ W.AI Z h zm .int 8 fm ∧ W.AI Z h zt .int 8 ft ∧ W.AJ Z h zl 8 fl ∧ W.AJ Z h zh 8 fh
theorem own_toOk (x : Int64) : -x + x = 0 := Int64.add_left_neg x
theorem own_8 {x : Int32} {k : Nat} (h : x.toInt = k) (hk : k < 8) : ¬ x = 8 := fun q => by rw [q] at h; have : (8 : Int32).toInt = 8 := rfl; omega
theorem pn_0 : plainName "com/example/tempora/tempora/DistanceGraph" = true := by first | (simp [plainName, overriddenIn]; done) | decide +kernel
theorem ef_1 (m : MethodId) (x0 : Addr) : entryFrame m #[(.ref x0)] 1 = mkF m 0 #[.val (.ref x0)] [] := by first | (simp [entryFrame, mkF, argsToLocals, Value.category]; done) | rfl
theorem d1_0 : decode prog_5_method_1_code 0 = .ok (.aload_n 0, 1) := by decide +kernel
theorem d1_1 : decode prog_5_method_1_code 1 = .ok (.invokespecial 1, 3) := by decide +kernel
theorem d1_4 : decode prog_5_method_1_code 4 = .ok (.aload_n 0, 1) := by decide +kernel
theorem d1_5 : decode prog_5_method_1_code 5 = .ok (.bipush 8, 2) := by decide +kernel
theorem d1_7 : decode prog_5_method_1_code 7 = .ok (.anewarray 9, 3) := by decide +kernel
theorem d1_10 : decode prog_5_method_1_code 10 = .ok (.putfield 11, 3) := by decide +kernel
theorem d1_13 : decode prog_5_method_1_code 13 = .ok (.aload_n 0, 1) := by decide +kernel
theorem d1_14 : decode prog_5_method_1_code 14 = .ok (.bipush 8, 2) := by decide +kernel
theorem d1_16 : decode prog_5_method_1_code 16 = .ok (.newarray .int, 2) := by decide +kernel
theorem d1_18 : decode prog_5_method_1_code 18 = .ok (.putfield 15, 3) := by decide +kernel
theorem d1_21 : decode prog_5_method_1_code 21 = .ok (.aload_n 0, 1) := by decide +kernel
theorem d1_22 : decode prog_5_method_1_code 22 = .ok (.bipush 8, 2) := by decide +kernel
theorem d1_24 : decode prog_5_method_1_code 24 = .ok (.anewarray 18, 3) := by decide +kernel
theorem d1_27 : decode prog_5_method_1_code 27 = .ok (.putfield 20, 3) := by decide +kernel
theorem d1_30 : decode prog_5_method_1_code 30 = .ok (.aload_n 0, 1) := by decide +kernel
theorem d1_31 : decode prog_5_method_1_code 31 = .ok (.bipush 8, 2) := by decide +kernel
theorem d1_33 : decode prog_5_method_1_code 33 = .ok (.newarray .int, 2) := by decide +kernel
theorem d1_35 : decode prog_5_method_1_code 35 = .ok (.putfield 24, 3) := by decide +kernel
theorem d1_38 : decode prog_5_method_1_code 38 = .ok (.aload_n 0, 1) := by decide +kernel
theorem d1_39 : decode prog_5_method_1_code 39 = .ok (.bipush 8, 2) := by decide +kernel
theorem d1_41 : decode prog_5_method_1_code 41 = .ok (.newarray .int, 2) := by decide +kernel
theorem d1_43 : decode prog_5_method_1_code 43 = .ok (.putfield 27, 3) := by decide +kernel
theorem d1_46 : decode prog_5_method_1_code 46 = .ok (.aload_n 0, 1) := by decide +kernel
theorem d1_47 : decode prog_5_method_1_code 47 = .ok (.bipush 8, 2) := by decide +kernel
theorem d1_49 : decode prog_5_method_1_code 49 = .ok (.newarray .int, 2) := by decide +kernel
theorem d1_51 : decode prog_5_method_1_code 51 = .ok (.putfield 30, 3) := by decide +kernel
theorem d1_54 : decode prog_5_method_1_code 54 = .ok (.aload_n 0, 1) := by decide +kernel
theorem d1_55 : decode prog_5_method_1_code 55 = .ok (.bipush 8, 2) := by decide +kernel
theorem d1_57 : decode prog_5_method_1_code 57 = .ok (.newarray .long, 2) := by decide +kernel
theorem d1_59 : decode prog_5_method_1_code 59 = .ok (.putfield 33, 3) := by decide +kernel
theorem d1_62 : decode prog_5_method_1_code 62 = .ok (.aload_n 0, 1) := by decide +kernel
theorem d1_63 : decode prog_5_method_1_code 63 = .ok (.bipush 8, 2) := by decide +kernel
theorem d1_65 : decode prog_5_method_1_code 65 = .ok (.newarray .long, 2) := by decide +kernel
theorem d1_67 : decode prog_5_method_1_code 67 = .ok (.putfield 37, 3) := by decide +kernel
theorem d1_70 : decode prog_5_method_1_code 70 = .ok (.return_, 1) := by decide +kernel
def Q1 (Z : State) (ao : Addr) (u_incident : Value) (u_degree : Value) (u_status : Value) (u_from : Value) (u_to : Value) (u_lo : Value) (u_hi : Value) (u_free : Value) (h0 : Heap) (n0 : Nat) (v : Option Value) (h : Heap) (L : List Loc) : Prop := v = none ∧ Fr n0 L ∧ Keep h0 h [ao] ∧ ∃ zi zd zs zm zt zl zh : Addr, own_ord ao zi zd zs zm zt zl zh ∧ own_ge n0 ao zi zd zs zm zt zl zh ∧ own_DG Z h ao zi zd zs zm zt zl zh 0 0 (fun _ => Value.null) (fun _ => Value.null) (fun _ => 0) (fun _ => 0) (fun _ => 0)
set_option maxRecDepth 65536 in
set_option maxHeartbeats 40000000 in
theorem rm1 (l : Launch) (Z : State) (a0 : Array Value) (hw : ∀ d ∈ tables_1, d.before a0 Z = true) (ws : List Jvm.Cond) (ao : Addr) (u_incident : Value) (u_degree : Value) (u_status : Value) (u_from : Value) (u_to : Value) (u_lo : Value) (u_hi : Value) (u_free : Value) (h0 : Heap) (n0 : Nat) (Z0 : n0 ≤ h0.size) (E0 : Exa Z h0 ao "com/example/tempora/tempora/DistanceGraph") (F_incident : Fld Z h0 ao "com/example/tempora/tempora/DistanceGraph" "incident" "[[I" u_incident) (F_degree : Fld Z h0 ao "com/example/tempora/tempora/DistanceGraph" "degree" "[I" u_degree) (F_status : Fld Z h0 ao "com/example/tempora/tempora/DistanceGraph" "status" "[Lcom/example/tempora/tempora/PointStatus;" u_status) (F_from : Fld Z h0 ao "com/example/tempora/tempora/DistanceGraph" "from" "[I" u_from) (F_to : Fld Z h0 ao "com/example/tempora/tempora/DistanceGraph" "to" "[I" u_to) (F_lo : Fld Z h0 ao "com/example/tempora/tempora/DistanceGraph" "lo" "[J" u_lo) (F_hi : Fld Z h0 ao "com/example/tempora/tempora/DistanceGraph" "hi" "[J" u_hi) (F_free : Fld Z h0 ao "com/example/tempora/tempora/DistanceGraph" "free" "[I" u_free) (I_pointCount : Fld Z h0 ao "com/example/tempora/tempora/DistanceGraph" "pointCount" "I" (.int 0)) (I_freeCount : Fld Z h0 ao "com/example/tempora/tempora/DistanceGraph" "freeCount" "I" (.int 0)) (I_constraintCount : Fld Z h0 ao "com/example/tempora/tempora/DistanceGraph" "constraintCount" "I" (.int 0)) (g0 : n0 ≤ ao) :
    MetFree l (⟨"com/example/tempora/tempora/DistanceGraph", "<init>", "()V"⟩ : MethodName) (head1 (Jvm.Cond.code (⟨"com/example/tempora/tempora/DistanceGraph", "<init>", "()V"⟩ : MethodName) prog_5_method_1_code 1 none :: ws) ({ frames := 1, cells := 8, slots := 64, locals := 12 } : Room)) (fun a U => a = #[(.ref ao)] ∧ Z.Warmed39 U.vm ∧ U.heap = h0) (fun _ _ _ _ _ => True) (fun _ U o U' => ∃ v L, o = .returned v ∧ Q1 Z ao u_incident u_degree u_status u_from u_to u_lo u_hi u_free h0 n0 v U'.heap L ∧ FrameEnd U o U' L ({ frames := 1, cells := 8, slots := 64, locals := 12 } : Room).cells ({ frames := 1, cells := 8, slots := 64, locals := 12 } : Room).slots) := by
  refine MetFree.of_bodySF (plainFor_of_name pn_0) hisR ?_
  intro p e s m args below meth c s₁ Bd hml0 hP hK
  obtain ⟨rfl, hZ, hh⟩ := hP
  have hx := Bd.exec
  have hby := Bd.bytes
  have hml : c.maxLocals = 1 := hml0
  have hown : s.vm.findClass "com/example/tempora/tempora/DistanceGraph" = some m.cls := findClass_of_methodNamed Bd.named
  have hnm := (name_of_methodNamed Bd.named Bd.method).1
  have hlk : meth.locks = false := BodyLoose.notSynchronized Bd
  have X0 : Stand p l e ({ frames := 1, cells := 8, slots := 64, locals := 12 } : Room) s m #[(.ref ao)] below meth c s₁ [] 0 0 := Stand.of_body Bd
  have e0 : s₁.heap = h0 := by rw [← hh, Bd.state]; rfl
  have N0 := Fr.nil n0
  show W.Gl p e below s (Q1 Z ao u_incident u_degree u_status u_from u_to u_lo u_hi u_free h0 n0) ({ frames := 1, cells := 8, slots := 64, locals := 12 } : Room).cells ({ frames := 1, cells := 8, slots := 64, locals := 12 } : Room).slots s₁ (entryFrame m #[(.ref ao)] 1)
  refine W.cast (ef_1 m ao) ?_
  have K0 : Keep h0 h0 [ao] := Keep.refl h0 [ao]
  refine W.s1 (mkF m 1 #[.val (.ref ao)] [(.ref ao)]) (fun _ kx_ => XS.aloadN X0.here hx rfl (hb hby d1_0) rfl rfl kx_) ?_
  obtain ⟨T101, X101, e101, st101⟩ := initO X0 hx hZ hown (hw _ (List.mem_of_getElem? (i := 11) rfl)) (hw _ (List.mem_of_getElem? (i := 12) rfl)) (hw _ (List.mem_of_getElem? (i := 13) rfl)) e0 (g := (mkF m 1 #[.val (.ref ao)] [(.ref ao)])) rfl (by rw [hml]; rfl) rfl (hb hby d1_1) (by decide) (W := 0) (by show 2 * 0 + _ ≤ _; exact Nat.le_of_eq rfl) (by decide)
  refine W.s2 (mkF m 4 #[.val (.ref ao)] []) st101 ?_
  refine W.s1 (mkF m 5 #[.val (.ref ao)] [(.ref ao)]) (fun _ kx_ => XS.aloadN X101.here hx rfl (hb hby d1_4) rfl rfl kx_) ?_
  refine W.s1 (mkF m 7 #[.val (.ref ao)] [(.int (8 : Int32)), (.ref ao)]) (fun _ kx_ => XS.bipush X101.here hx rfl (hb hby d1_5) kx_) ?_
  refine W.newra X101 hx hZ hown (ty := .int) (by first | rfl | decide | decide +kernel) (hw _ (List.mem_of_getElem? (i := 14) rfl)) (hw _ (List.mem_of_getElem? (i := 15) rfl)) e101 (hb hby d1_7) (n := 8) rfl (cap := 8) (Nat.le_refl _) (by decide) (by decide) (by decide) (pc' := 10) rfl (fun T102 h102 zi X102 e102 E102 g102 A102 => ?_)
  have ne103 : ao ≠ zi := Nat.ne_of_lt (Nat.lt_of_lt_of_le E0.lt (Nat.le_of_eq g102.symm))
  have ge102 : n0 ≤ zi := Nat.le_trans Z0 (Nat.le_of_eq g102.symm)
  have sz102 : h0.size ≤ zi := Nat.le_trans K0.1 (Nat.le_of_eq g102.symm)
  have Z102 : n0 ≤ h102.size := Nat.le_trans Z0 E102.1
  have K102 : Keep h0 h102 [ao] := K0.ext E102
  have f104 := E0.ext E102
  have f105 := F_incident.ext E102
  have f106 := F_degree.ext E102
  have f107 := F_status.ext E102
  have f108 := F_from.ext E102
  have f109 := F_to.ext E102
  have f110 := F_lo.ext E102
  have f111 := F_hi.ext E102
  have f112 := F_free.ext E102
  have f113 := I_pointCount.ext E102
  have f114 := I_freeCount.ext E102
  have f115 := I_constraintCount.ext E102
  refine W.putf X102 hx hZ hown (host := "") (Or.inl (hw _ (List.mem_of_getElem? (i := 16) rfl))) Via.refl e102 f105 f104 (Or.inl (hw _ (List.mem_of_getElem? (i := 17) rfl))) (hw _ (List.mem_of_getElem? (i := 6) rfl)) (ty := (.array (.array .int))) (by decide) rfl rfl N0 g0 (hb hby d1_10) (pc' := 13) rfl (fun T116 h116 L116 X116 e116 W116 fw116 N116 => ?_)
  have Z116 : n0 ≤ h116.size := Nat.le_trans Z102 (Keep.of_wr W116).1
  have f117 := f104.wr W116
  have f118 := f106.other W116 (Or.inr (slot_ne (Or.inl (hw _ (List.mem_of_getElem? (i := 20) rfl))) (Or.inl (hw _ (List.mem_of_getElem? (i := 17) rfl))) (by decide) (t := (.array .int)) (t' := (.array (.array .int))) (by decide) (by decide)))
  have f119 := f107.other W116 (Or.inr (slot_ne (Or.inl (hw _ (List.mem_of_getElem? (i := 24) rfl))) (Or.inl (hw _ (List.mem_of_getElem? (i := 17) rfl))) (by decide) (t := (.array (.object "com/example/tempora/tempora/PointStatus"))) (t' := (.array (.array .int))) (by decide) (by decide)))
  have f120 := f108.other W116 (Or.inr (slot_ne (Or.inl (hw _ (List.mem_of_getElem? (i := 28) rfl))) (Or.inl (hw _ (List.mem_of_getElem? (i := 17) rfl))) (by decide) (t := (.array .int)) (t' := (.array (.array .int))) (by decide) (by decide)))
  have f121 := f109.other W116 (Or.inr (slot_ne (Or.inl (hw _ (List.mem_of_getElem? (i := 30) rfl))) (Or.inl (hw _ (List.mem_of_getElem? (i := 17) rfl))) (by decide) (t := (.array .int)) (t' := (.array (.array .int))) (by decide) (by decide)))
  have f122 := f110.other W116 (Or.inr (slot_ne (Or.inl (hw _ (List.mem_of_getElem? (i := 33) rfl))) (Or.inl (hw _ (List.mem_of_getElem? (i := 17) rfl))) (by decide) (t := (.array .long)) (t' := (.array (.array .int))) (by decide) (by decide)))
  have f123 := f111.other W116 (Or.inr (slot_ne (Or.inl (hw _ (List.mem_of_getElem? (i := 35) rfl))) (Or.inl (hw _ (List.mem_of_getElem? (i := 17) rfl))) (by decide) (t := (.array .long)) (t' := (.array (.array .int))) (by decide) (by decide)))
  have f124 := f112.other W116 (Or.inr (slot_ne (Or.inl (hw _ (List.mem_of_getElem? (i := 26) rfl))) (Or.inl (hw _ (List.mem_of_getElem? (i := 17) rfl))) (by decide) (t := (.array .int)) (t' := (.array (.array .int))) (by decide) (by decide)))
  have f125 := f113.other W116 (Or.inr (slot_ne (Or.inl (hw _ (List.mem_of_getElem? (i := 42) rfl))) (Or.inl (hw _ (List.mem_of_getElem? (i := 17) rfl))) (by decide) (t := .int) (t' := (.array (.array .int))) (by decide) (by decide)))
  have f126 := f114.other W116 (Or.inr (slot_ne (Or.inl (hw _ (List.mem_of_getElem? (i := 51) rfl))) (Or.inl (hw _ (List.mem_of_getElem? (i := 17) rfl))) (by decide) (t := .int) (t' := (.array (.array .int))) (by decide) (by decide)))
  have f127 := f115.other W116 (Or.inr (slot_ne (Or.inl (hw _ (List.mem_of_getElem? (i := 53) rfl))) (Or.inl (hw _ (List.mem_of_getElem? (i := 17) rfl))) (by decide) (t := .int) (t' := (.array (.array .int))) (by decide) (by decide)))
  have f128 := A102.other W116 (Ne.symm ne103)
  have K116 : Keep h0 h116 [ao] := K102.wr W116 (Or.inl (List.mem_of_getElem? (i := 0) rfl))
  refine W.s1 (mkF m 14 #[.val (.ref ao)] [(.ref ao)]) (fun _ kx_ => XS.aloadN X116.here hx rfl (hb hby d1_13) rfl rfl kx_) ?_
  refine W.s1 (mkF m 16 #[.val (.ref ao)] [(.int (8 : Int32)), (.ref ao)]) (fun _ kx_ => XS.bipush X116.here hx rfl (hb hby d1_14) kx_) ?_
  refine W.newi X116 hx hZ (ty := .int) (aty := .int) (hw _ (List.mem_of_getElem? (i := 18) rfl)) rfl rfl e116 (hb hby d1_16) (n := 8) rfl (cap := 8) (Nat.le_refl _) (by decide) (by decide) (by decide) (pc' := 18) rfl (fun T129 h129 zd X129 e129 E129 g129 A129 => ?_)
  have ne130 : ao ≠ zd := Nat.ne_of_lt (Nat.lt_of_lt_of_le f117.lt (Nat.le_of_eq g129.symm))
  have ne131 : zi ≠ zd := Nat.ne_of_lt (Nat.lt_of_lt_of_le f128.lt (Nat.le_of_eq g129.symm))
  have ge129 : n0 ≤ zd := Nat.le_trans Z116 (Nat.le_of_eq g129.symm)
  have sz129 : h0.size ≤ zd := Nat.le_trans K116.1 (Nat.le_of_eq g129.symm)
  have Z129 : n0 ≤ h129.size := Nat.le_trans Z116 E129.1
  have K129 : Keep h0 h129 [ao] := K116.ext E129
  have f132 := f117.ext E129
  have f133 := fw116.ext E129
  have f134 := f118.ext E129
  have f135 := f119.ext E129
  have f136 := f120.ext E129
  have f137 := f121.ext E129
  have f138 := f122.ext E129
  have f139 := f123.ext E129
  have f140 := f124.ext E129
  have f141 := f125.ext E129
  have f142 := f126.ext E129
  have f143 := f127.ext E129
  have f144 := f128.ext E129
  refine W.putf X129 hx hZ hown (host := "") (Or.inl (hw _ (List.mem_of_getElem? (i := 19) rfl))) Via.refl e129 f134 f132 (Or.inl (hw _ (List.mem_of_getElem? (i := 20) rfl))) (hw _ (List.mem_of_getElem? (i := 6) rfl)) (ty := (.array .int)) (by decide) rfl rfl N116 g0 (hb hby d1_18) (pc' := 21) rfl (fun T145 h145 L145 X145 e145 W145 fw145 N145 => ?_)
  have Z145 : n0 ≤ h145.size := Nat.le_trans Z129 (Keep.of_wr W145).1
  have f146 := f132.wr W145
  have f147 := f133.other W145 (Or.inr (slot_ne (Or.inl (hw _ (List.mem_of_getElem? (i := 17) rfl))) (Or.inl (hw _ (List.mem_of_getElem? (i := 20) rfl))) (by decide) (t := (.array (.array .int))) (t' := (.array .int)) (by decide) (by decide)))
  have f148 := f135.other W145 (Or.inr (slot_ne (Or.inl (hw _ (List.mem_of_getElem? (i := 24) rfl))) (Or.inl (hw _ (List.mem_of_getElem? (i := 20) rfl))) (by decide) (t := (.array (.object "com/example/tempora/tempora/PointStatus"))) (t' := (.array .int)) (by decide) (by decide)))
  have f149 := f136.other W145 (Or.inr (slot_ne (Or.inl (hw _ (List.mem_of_getElem? (i := 28) rfl))) (Or.inl (hw _ (List.mem_of_getElem? (i := 20) rfl))) (by decide) (t := (.array .int)) (t' := (.array .int)) (by decide) (by decide)))
  have f150 := f137.other W145 (Or.inr (slot_ne (Or.inl (hw _ (List.mem_of_getElem? (i := 30) rfl))) (Or.inl (hw _ (List.mem_of_getElem? (i := 20) rfl))) (by decide) (t := (.array .int)) (t' := (.array .int)) (by decide) (by decide)))
  have f151 := f138.other W145 (Or.inr (slot_ne (Or.inl (hw _ (List.mem_of_getElem? (i := 33) rfl))) (Or.inl (hw _ (List.mem_of_getElem? (i := 20) rfl))) (by decide) (t := (.array .long)) (t' := (.array .int)) (by decide) (by decide)))
  have f152 := f139.other W145 (Or.inr (slot_ne (Or.inl (hw _ (List.mem_of_getElem? (i := 35) rfl))) (Or.inl (hw _ (List.mem_of_getElem? (i := 20) rfl))) (by decide) (t := (.array .long)) (t' := (.array .int)) (by decide) (by decide)))
  have f153 := f140.other W145 (Or.inr (slot_ne (Or.inl (hw _ (List.mem_of_getElem? (i := 26) rfl))) (Or.inl (hw _ (List.mem_of_getElem? (i := 20) rfl))) (by decide) (t := (.array .int)) (t' := (.array .int)) (by decide) (by decide)))
  have f154 := f141.other W145 (Or.inr (slot_ne (Or.inl (hw _ (List.mem_of_getElem? (i := 42) rfl))) (Or.inl (hw _ (List.mem_of_getElem? (i := 20) rfl))) (by decide) (t := .int) (t' := (.array .int)) (by decide) (by decide)))
  have f155 := f142.other W145 (Or.inr (slot_ne (Or.inl (hw _ (List.mem_of_getElem? (i := 51) rfl))) (Or.inl (hw _ (List.mem_of_getElem? (i := 20) rfl))) (by decide) (t := .int) (t' := (.array .int)) (by decide) (by decide)))
  have f156 := f143.other W145 (Or.inr (slot_ne (Or.inl (hw _ (List.mem_of_getElem? (i := 53) rfl))) (Or.inl (hw _ (List.mem_of_getElem? (i := 20) rfl))) (by decide) (t := .int) (t' := (.array .int)) (by decide) (by decide)))
  have f157 := f144.other W145 (Ne.symm ne103)
  have f158 := A129.other W145 (Ne.symm ne130)
  have K145 : Keep h0 h145 [ao] := K129.wr W145 (Or.inl (List.mem_of_getElem? (i := 0) rfl))
  refine W.s1 (mkF m 22 #[.val (.ref ao)] [(.ref ao)]) (fun _ kx_ => XS.aloadN X145.here hx rfl (hb hby d1_21) rfl rfl kx_) ?_
  refine W.s1 (mkF m 24 #[.val (.ref ao)] [(.int (8 : Int32)), (.ref ao)]) (fun _ kx_ => XS.bipush X145.here hx rfl (hb hby d1_22) kx_) ?_
  refine W.newr X145 hx hZ hown (hw _ (List.mem_of_getElem? (i := 21) rfl)) (hw _ (List.mem_of_getElem? (i := 22) rfl)) e145 (hb hby d1_24) (n := 8) rfl (cap := 8) (Nat.le_refl _) (by decide) (by decide) (by decide) (pc' := 27) rfl (fun T159 h159 zs X159 e159 E159 g159 A159 => ?_)
  have ne160 : ao ≠ zs := Nat.ne_of_lt (Nat.lt_of_lt_of_le f146.lt (Nat.le_of_eq g159.symm))
  have ne161 : zi ≠ zs := Nat.ne_of_lt (Nat.lt_of_lt_of_le f157.lt (Nat.le_of_eq g159.symm))
  have ne162 : zd ≠ zs := Nat.ne_of_lt (Nat.lt_of_lt_of_le f158.lt (Nat.le_of_eq g159.symm))
  have ge159 : n0 ≤ zs := Nat.le_trans Z145 (Nat.le_of_eq g159.symm)
  have sz159 : h0.size ≤ zs := Nat.le_trans K145.1 (Nat.le_of_eq g159.symm)
  have Z159 : n0 ≤ h159.size := Nat.le_trans Z145 E159.1
  have K159 : Keep h0 h159 [ao] := K145.ext E159
  have f163 := f146.ext E159
  have f164 := f147.ext E159
  have f165 := fw145.ext E159
  have f166 := f148.ext E159
  have f167 := f149.ext E159
  have f168 := f150.ext E159
  have f169 := f151.ext E159
  have f170 := f152.ext E159
  have f171 := f153.ext E159
  have f172 := f154.ext E159
  have f173 := f155.ext E159
  have f174 := f156.ext E159
  have f175 := f157.ext E159
  have f176 := f158.ext E159
  refine W.putf X159 hx hZ hown (host := "") (Or.inl (hw _ (List.mem_of_getElem? (i := 23) rfl))) Via.refl e159 f166 f163 (Or.inl (hw _ (List.mem_of_getElem? (i := 24) rfl))) (hw _ (List.mem_of_getElem? (i := 6) rfl)) (ty := (.array (.object "com/example/tempora/tempora/PointStatus"))) (by decide) rfl rfl N145 g0 (hb hby d1_27) (pc' := 30) rfl (fun T177 h177 L177 X177 e177 W177 fw177 N177 => ?_)
  have Z177 : n0 ≤ h177.size := Nat.le_trans Z159 (Keep.of_wr W177).1
  have f178 := f163.wr W177
  have f179 := f164.other W177 (Or.inr (slot_ne (Or.inl (hw _ (List.mem_of_getElem? (i := 17) rfl))) (Or.inl (hw _ (List.mem_of_getElem? (i := 24) rfl))) (by decide) (t := (.array (.array .int))) (t' := (.array (.object "com/example/tempora/tempora/PointStatus"))) (by decide) (by decide)))
  have f180 := f165.other W177 (Or.inr (slot_ne (Or.inl (hw _ (List.mem_of_getElem? (i := 20) rfl))) (Or.inl (hw _ (List.mem_of_getElem? (i := 24) rfl))) (by decide) (t := (.array .int)) (t' := (.array (.object "com/example/tempora/tempora/PointStatus"))) (by decide) (by decide)))
  have f181 := f167.other W177 (Or.inr (slot_ne (Or.inl (hw _ (List.mem_of_getElem? (i := 28) rfl))) (Or.inl (hw _ (List.mem_of_getElem? (i := 24) rfl))) (by decide) (t := (.array .int)) (t' := (.array (.object "com/example/tempora/tempora/PointStatus"))) (by decide) (by decide)))
  have f182 := f168.other W177 (Or.inr (slot_ne (Or.inl (hw _ (List.mem_of_getElem? (i := 30) rfl))) (Or.inl (hw _ (List.mem_of_getElem? (i := 24) rfl))) (by decide) (t := (.array .int)) (t' := (.array (.object "com/example/tempora/tempora/PointStatus"))) (by decide) (by decide)))
  have f183 := f169.other W177 (Or.inr (slot_ne (Or.inl (hw _ (List.mem_of_getElem? (i := 33) rfl))) (Or.inl (hw _ (List.mem_of_getElem? (i := 24) rfl))) (by decide) (t := (.array .long)) (t' := (.array (.object "com/example/tempora/tempora/PointStatus"))) (by decide) (by decide)))
  have f184 := f170.other W177 (Or.inr (slot_ne (Or.inl (hw _ (List.mem_of_getElem? (i := 35) rfl))) (Or.inl (hw _ (List.mem_of_getElem? (i := 24) rfl))) (by decide) (t := (.array .long)) (t' := (.array (.object "com/example/tempora/tempora/PointStatus"))) (by decide) (by decide)))
  have f185 := f171.other W177 (Or.inr (slot_ne (Or.inl (hw _ (List.mem_of_getElem? (i := 26) rfl))) (Or.inl (hw _ (List.mem_of_getElem? (i := 24) rfl))) (by decide) (t := (.array .int)) (t' := (.array (.object "com/example/tempora/tempora/PointStatus"))) (by decide) (by decide)))
  have f186 := f172.other W177 (Or.inr (slot_ne (Or.inl (hw _ (List.mem_of_getElem? (i := 42) rfl))) (Or.inl (hw _ (List.mem_of_getElem? (i := 24) rfl))) (by decide) (t := .int) (t' := (.array (.object "com/example/tempora/tempora/PointStatus"))) (by decide) (by decide)))
  have f187 := f173.other W177 (Or.inr (slot_ne (Or.inl (hw _ (List.mem_of_getElem? (i := 51) rfl))) (Or.inl (hw _ (List.mem_of_getElem? (i := 24) rfl))) (by decide) (t := .int) (t' := (.array (.object "com/example/tempora/tempora/PointStatus"))) (by decide) (by decide)))
  have f188 := f174.other W177 (Or.inr (slot_ne (Or.inl (hw _ (List.mem_of_getElem? (i := 53) rfl))) (Or.inl (hw _ (List.mem_of_getElem? (i := 24) rfl))) (by decide) (t := .int) (t' := (.array (.object "com/example/tempora/tempora/PointStatus"))) (by decide) (by decide)))
  have f189 := f175.other W177 (Ne.symm ne103)
  have f190 := f176.other W177 (Ne.symm ne130)
  have f191 := A159.other W177 (Ne.symm ne160)
  have K177 : Keep h0 h177 [ao] := K159.wr W177 (Or.inl (List.mem_of_getElem? (i := 0) rfl))
  refine W.s1 (mkF m 31 #[.val (.ref ao)] [(.ref ao)]) (fun _ kx_ => XS.aloadN X177.here hx rfl (hb hby d1_30) rfl rfl kx_) ?_
  refine W.s1 (mkF m 33 #[.val (.ref ao)] [(.int (8 : Int32)), (.ref ao)]) (fun _ kx_ => XS.bipush X177.here hx rfl (hb hby d1_31) kx_) ?_
  refine W.newi X177 hx hZ (ty := .int) (aty := .int) (hw _ (List.mem_of_getElem? (i := 18) rfl)) rfl rfl e177 (hb hby d1_33) (n := 8) rfl (cap := 8) (Nat.le_refl _) (by decide) (by decide) (by decide) (pc' := 35) rfl (fun T192 h192 zf X192 e192 E192 g192 A192 => ?_)
  have ne193 : ao ≠ zf := Nat.ne_of_lt (Nat.lt_of_lt_of_le f178.lt (Nat.le_of_eq g192.symm))
  have ne194 : zi ≠ zf := Nat.ne_of_lt (Nat.lt_of_lt_of_le f189.lt (Nat.le_of_eq g192.symm))
  have ne195 : zd ≠ zf := Nat.ne_of_lt (Nat.lt_of_lt_of_le f190.lt (Nat.le_of_eq g192.symm))
  have ne196 : zs ≠ zf := Nat.ne_of_lt (Nat.lt_of_lt_of_le f191.lt (Nat.le_of_eq g192.symm))
  have ge192 : n0 ≤ zf := Nat.le_trans Z177 (Nat.le_of_eq g192.symm)
  have sz192 : h0.size ≤ zf := Nat.le_trans K177.1 (Nat.le_of_eq g192.symm)
  have Z192 : n0 ≤ h192.size := Nat.le_trans Z177 E192.1
  have K192 : Keep h0 h192 [ao] := K177.ext E192
  have f197 := f178.ext E192
  have f198 := f179.ext E192
  have f199 := f180.ext E192
  have f200 := fw177.ext E192
  have f201 := f181.ext E192
  have f202 := f182.ext E192
  have f203 := f183.ext E192
  have f204 := f184.ext E192
  have f205 := f185.ext E192
  have f206 := f186.ext E192
  have f207 := f187.ext E192
  have f208 := f188.ext E192
  have f209 := f189.ext E192
  have f210 := f190.ext E192
  have f211 := f191.ext E192
  refine W.putf X192 hx hZ hown (host := "") (Or.inl (hw _ (List.mem_of_getElem? (i := 25) rfl))) Via.refl e192 f205 f197 (Or.inl (hw _ (List.mem_of_getElem? (i := 26) rfl))) (hw _ (List.mem_of_getElem? (i := 6) rfl)) (ty := (.array .int)) (by decide) rfl rfl N177 g0 (hb hby d1_35) (pc' := 38) rfl (fun T212 h212 L212 X212 e212 W212 fw212 N212 => ?_)
  have Z212 : n0 ≤ h212.size := Nat.le_trans Z192 (Keep.of_wr W212).1
  have f213 := f197.wr W212
  have f214 := f198.other W212 (Or.inr (slot_ne (Or.inl (hw _ (List.mem_of_getElem? (i := 17) rfl))) (Or.inl (hw _ (List.mem_of_getElem? (i := 26) rfl))) (by decide) (t := (.array (.array .int))) (t' := (.array .int)) (by decide) (by decide)))
  have f215 := f199.other W212 (Or.inr (slot_ne (Or.inl (hw _ (List.mem_of_getElem? (i := 20) rfl))) (Or.inl (hw _ (List.mem_of_getElem? (i := 26) rfl))) (by decide) (t := (.array .int)) (t' := (.array .int)) (by decide) (by decide)))
  have f216 := f200.other W212 (Or.inr (slot_ne (Or.inl (hw _ (List.mem_of_getElem? (i := 24) rfl))) (Or.inl (hw _ (List.mem_of_getElem? (i := 26) rfl))) (by decide) (t := (.array (.object "com/example/tempora/tempora/PointStatus"))) (t' := (.array .int)) (by decide) (by decide)))
  have f217 := f201.other W212 (Or.inr (slot_ne (Or.inl (hw _ (List.mem_of_getElem? (i := 28) rfl))) (Or.inl (hw _ (List.mem_of_getElem? (i := 26) rfl))) (by decide) (t := (.array .int)) (t' := (.array .int)) (by decide) (by decide)))
  have f218 := f202.other W212 (Or.inr (slot_ne (Or.inl (hw _ (List.mem_of_getElem? (i := 30) rfl))) (Or.inl (hw _ (List.mem_of_getElem? (i := 26) rfl))) (by decide) (t := (.array .int)) (t' := (.array .int)) (by decide) (by decide)))
  have f219 := f203.other W212 (Or.inr (slot_ne (Or.inl (hw _ (List.mem_of_getElem? (i := 33) rfl))) (Or.inl (hw _ (List.mem_of_getElem? (i := 26) rfl))) (by decide) (t := (.array .long)) (t' := (.array .int)) (by decide) (by decide)))
  have f220 := f204.other W212 (Or.inr (slot_ne (Or.inl (hw _ (List.mem_of_getElem? (i := 35) rfl))) (Or.inl (hw _ (List.mem_of_getElem? (i := 26) rfl))) (by decide) (t := (.array .long)) (t' := (.array .int)) (by decide) (by decide)))
  have f221 := f206.other W212 (Or.inr (slot_ne (Or.inl (hw _ (List.mem_of_getElem? (i := 42) rfl))) (Or.inl (hw _ (List.mem_of_getElem? (i := 26) rfl))) (by decide) (t := .int) (t' := (.array .int)) (by decide) (by decide)))
  have f222 := f207.other W212 (Or.inr (slot_ne (Or.inl (hw _ (List.mem_of_getElem? (i := 51) rfl))) (Or.inl (hw _ (List.mem_of_getElem? (i := 26) rfl))) (by decide) (t := .int) (t' := (.array .int)) (by decide) (by decide)))
  have f223 := f208.other W212 (Or.inr (slot_ne (Or.inl (hw _ (List.mem_of_getElem? (i := 53) rfl))) (Or.inl (hw _ (List.mem_of_getElem? (i := 26) rfl))) (by decide) (t := .int) (t' := (.array .int)) (by decide) (by decide)))
  have f224 := f209.other W212 (Ne.symm ne103)
  have f225 := f210.other W212 (Ne.symm ne130)
  have f226 := f211.other W212 (Ne.symm ne160)
  have f227 := A192.other W212 (Ne.symm ne193)
  have K212 : Keep h0 h212 [ao] := K192.wr W212 (Or.inl (List.mem_of_getElem? (i := 0) rfl))
  refine W.s1 (mkF m 39 #[.val (.ref ao)] [(.ref ao)]) (fun _ kx_ => XS.aloadN X212.here hx rfl (hb hby d1_38) rfl rfl kx_) ?_
  refine W.s1 (mkF m 41 #[.val (.ref ao)] [(.int (8 : Int32)), (.ref ao)]) (fun _ kx_ => XS.bipush X212.here hx rfl (hb hby d1_39) kx_) ?_
  refine W.newi X212 hx hZ (ty := .int) (aty := .int) (hw _ (List.mem_of_getElem? (i := 18) rfl)) rfl rfl e212 (hb hby d1_41) (n := 8) rfl (cap := 8) (Nat.le_refl _) (by decide) (by decide) (by decide) (pc' := 43) rfl (fun T228 h228 zm X228 e228 E228 g228 A228 => ?_)
  have ne229 : ao ≠ zm := Nat.ne_of_lt (Nat.lt_of_lt_of_le f213.lt (Nat.le_of_eq g228.symm))
  have ne230 : zi ≠ zm := Nat.ne_of_lt (Nat.lt_of_lt_of_le f224.lt (Nat.le_of_eq g228.symm))
  have ne231 : zd ≠ zm := Nat.ne_of_lt (Nat.lt_of_lt_of_le f225.lt (Nat.le_of_eq g228.symm))
  have ne232 : zs ≠ zm := Nat.ne_of_lt (Nat.lt_of_lt_of_le f226.lt (Nat.le_of_eq g228.symm))
  have ne233 : zf ≠ zm := Nat.ne_of_lt (Nat.lt_of_lt_of_le f227.lt (Nat.le_of_eq g228.symm))
  have ge228 : n0 ≤ zm := Nat.le_trans Z212 (Nat.le_of_eq g228.symm)
  have sz228 : h0.size ≤ zm := Nat.le_trans K212.1 (Nat.le_of_eq g228.symm)
  have Z228 : n0 ≤ h228.size := Nat.le_trans Z212 E228.1
  have K228 : Keep h0 h228 [ao] := K212.ext E228
  have f234 := f213.ext E228
  have f235 := f214.ext E228
  have f236 := f215.ext E228
  have f237 := f216.ext E228
  have f238 := f217.ext E228
  have f239 := f218.ext E228
  have f240 := f219.ext E228
  have f241 := f220.ext E228
  have f242 := fw212.ext E228
  have f243 := f221.ext E228
  have f244 := f222.ext E228
  have f245 := f223.ext E228
  have f246 := f224.ext E228
  have f247 := f225.ext E228
  have f248 := f226.ext E228
  have f249 := f227.ext E228
  refine W.putf X228 hx hZ hown (host := "") (Or.inl (hw _ (List.mem_of_getElem? (i := 27) rfl))) Via.refl e228 f238 f234 (Or.inl (hw _ (List.mem_of_getElem? (i := 28) rfl))) (hw _ (List.mem_of_getElem? (i := 6) rfl)) (ty := (.array .int)) (by decide) rfl rfl N212 g0 (hb hby d1_43) (pc' := 46) rfl (fun T250 h250 L250 X250 e250 W250 fw250 N250 => ?_)
  have Z250 : n0 ≤ h250.size := Nat.le_trans Z228 (Keep.of_wr W250).1
  have f251 := f234.wr W250
  have f252 := f235.other W250 (Or.inr (slot_ne (Or.inl (hw _ (List.mem_of_getElem? (i := 17) rfl))) (Or.inl (hw _ (List.mem_of_getElem? (i := 28) rfl))) (by decide) (t := (.array (.array .int))) (t' := (.array .int)) (by decide) (by decide)))
  have f253 := f236.other W250 (Or.inr (slot_ne (Or.inl (hw _ (List.mem_of_getElem? (i := 20) rfl))) (Or.inl (hw _ (List.mem_of_getElem? (i := 28) rfl))) (by decide) (t := (.array .int)) (t' := (.array .int)) (by decide) (by decide)))
  have f254 := f237.other W250 (Or.inr (slot_ne (Or.inl (hw _ (List.mem_of_getElem? (i := 24) rfl))) (Or.inl (hw _ (List.mem_of_getElem? (i := 28) rfl))) (by decide) (t := (.array (.object "com/example/tempora/tempora/PointStatus"))) (t' := (.array .int)) (by decide) (by decide)))
  have f255 := f239.other W250 (Or.inr (slot_ne (Or.inl (hw _ (List.mem_of_getElem? (i := 30) rfl))) (Or.inl (hw _ (List.mem_of_getElem? (i := 28) rfl))) (by decide) (t := (.array .int)) (t' := (.array .int)) (by decide) (by decide)))
  have f256 := f240.other W250 (Or.inr (slot_ne (Or.inl (hw _ (List.mem_of_getElem? (i := 33) rfl))) (Or.inl (hw _ (List.mem_of_getElem? (i := 28) rfl))) (by decide) (t := (.array .long)) (t' := (.array .int)) (by decide) (by decide)))
  have f257 := f241.other W250 (Or.inr (slot_ne (Or.inl (hw _ (List.mem_of_getElem? (i := 35) rfl))) (Or.inl (hw _ (List.mem_of_getElem? (i := 28) rfl))) (by decide) (t := (.array .long)) (t' := (.array .int)) (by decide) (by decide)))
  have f258 := f242.other W250 (Or.inr (slot_ne (Or.inl (hw _ (List.mem_of_getElem? (i := 26) rfl))) (Or.inl (hw _ (List.mem_of_getElem? (i := 28) rfl))) (by decide) (t := (.array .int)) (t' := (.array .int)) (by decide) (by decide)))
  have f259 := f243.other W250 (Or.inr (slot_ne (Or.inl (hw _ (List.mem_of_getElem? (i := 42) rfl))) (Or.inl (hw _ (List.mem_of_getElem? (i := 28) rfl))) (by decide) (t := .int) (t' := (.array .int)) (by decide) (by decide)))
  have f260 := f244.other W250 (Or.inr (slot_ne (Or.inl (hw _ (List.mem_of_getElem? (i := 51) rfl))) (Or.inl (hw _ (List.mem_of_getElem? (i := 28) rfl))) (by decide) (t := .int) (t' := (.array .int)) (by decide) (by decide)))
  have f261 := f245.other W250 (Or.inr (slot_ne (Or.inl (hw _ (List.mem_of_getElem? (i := 53) rfl))) (Or.inl (hw _ (List.mem_of_getElem? (i := 28) rfl))) (by decide) (t := .int) (t' := (.array .int)) (by decide) (by decide)))
  have f262 := f246.other W250 (Ne.symm ne103)
  have f263 := f247.other W250 (Ne.symm ne130)
  have f264 := f248.other W250 (Ne.symm ne160)
  have f265 := f249.other W250 (Ne.symm ne193)
  have f266 := A228.other W250 (Ne.symm ne229)
  have K250 : Keep h0 h250 [ao] := K228.wr W250 (Or.inl (List.mem_of_getElem? (i := 0) rfl))
  refine W.s1 (mkF m 47 #[.val (.ref ao)] [(.ref ao)]) (fun _ kx_ => XS.aloadN X250.here hx rfl (hb hby d1_46) rfl rfl kx_) ?_
  refine W.s1 (mkF m 49 #[.val (.ref ao)] [(.int (8 : Int32)), (.ref ao)]) (fun _ kx_ => XS.bipush X250.here hx rfl (hb hby d1_47) kx_) ?_
  refine W.newi X250 hx hZ (ty := .int) (aty := .int) (hw _ (List.mem_of_getElem? (i := 18) rfl)) rfl rfl e250 (hb hby d1_49) (n := 8) rfl (cap := 8) (Nat.le_refl _) (by decide) (by decide) (by decide) (pc' := 51) rfl (fun T267 h267 zt X267 e267 E267 g267 A267 => ?_)
  have ne268 : ao ≠ zt := Nat.ne_of_lt (Nat.lt_of_lt_of_le f251.lt (Nat.le_of_eq g267.symm))
  have ne269 : zi ≠ zt := Nat.ne_of_lt (Nat.lt_of_lt_of_le f262.lt (Nat.le_of_eq g267.symm))
  have ne270 : zd ≠ zt := Nat.ne_of_lt (Nat.lt_of_lt_of_le f263.lt (Nat.le_of_eq g267.symm))
  have ne271 : zs ≠ zt := Nat.ne_of_lt (Nat.lt_of_lt_of_le f264.lt (Nat.le_of_eq g267.symm))
  have ne272 : zf ≠ zt := Nat.ne_of_lt (Nat.lt_of_lt_of_le f265.lt (Nat.le_of_eq g267.symm))
  have ne273 : zm ≠ zt := Nat.ne_of_lt (Nat.lt_of_lt_of_le f266.lt (Nat.le_of_eq g267.symm))
  have ge267 : n0 ≤ zt := Nat.le_trans Z250 (Nat.le_of_eq g267.symm)
  have sz267 : h0.size ≤ zt := Nat.le_trans K250.1 (Nat.le_of_eq g267.symm)
  have Z267 : n0 ≤ h267.size := Nat.le_trans Z250 E267.1
  have K267 : Keep h0 h267 [ao] := K250.ext E267
  have f274 := f251.ext E267
  have f275 := f252.ext E267
  have f276 := f253.ext E267
  have f277 := f254.ext E267
  have f278 := fw250.ext E267
  have f279 := f255.ext E267
  have f280 := f256.ext E267
  have f281 := f257.ext E267
  have f282 := f258.ext E267
  have f283 := f259.ext E267
  have f284 := f260.ext E267
  have f285 := f261.ext E267
  have f286 := f262.ext E267
  have f287 := f263.ext E267
  have f288 := f264.ext E267
  have f289 := f265.ext E267
  have f290 := f266.ext E267
  refine W.putf X267 hx hZ hown (host := "") (Or.inl (hw _ (List.mem_of_getElem? (i := 29) rfl))) Via.refl e267 f279 f274 (Or.inl (hw _ (List.mem_of_getElem? (i := 30) rfl))) (hw _ (List.mem_of_getElem? (i := 6) rfl)) (ty := (.array .int)) (by decide) rfl rfl N250 g0 (hb hby d1_51) (pc' := 54) rfl (fun T291 h291 L291 X291 e291 W291 fw291 N291 => ?_)
  have Z291 : n0 ≤ h291.size := Nat.le_trans Z267 (Keep.of_wr W291).1
  have f292 := f274.wr W291
  have f293 := f275.other W291 (Or.inr (slot_ne (Or.inl (hw _ (List.mem_of_getElem? (i := 17) rfl))) (Or.inl (hw _ (List.mem_of_getElem? (i := 30) rfl))) (by decide) (t := (.array (.array .int))) (t' := (.array .int)) (by decide) (by decide)))
  have f294 := f276.other W291 (Or.inr (slot_ne (Or.inl (hw _ (List.mem_of_getElem? (i := 20) rfl))) (Or.inl (hw _ (List.mem_of_getElem? (i := 30) rfl))) (by decide) (t := (.array .int)) (t' := (.array .int)) (by decide) (by decide)))
  have f295 := f277.other W291 (Or.inr (slot_ne (Or.inl (hw _ (List.mem_of_getElem? (i := 24) rfl))) (Or.inl (hw _ (List.mem_of_getElem? (i := 30) rfl))) (by decide) (t := (.array (.object "com/example/tempora/tempora/PointStatus"))) (t' := (.array .int)) (by decide) (by decide)))
  have f296 := f278.other W291 (Or.inr (slot_ne (Or.inl (hw _ (List.mem_of_getElem? (i := 28) rfl))) (Or.inl (hw _ (List.mem_of_getElem? (i := 30) rfl))) (by decide) (t := (.array .int)) (t' := (.array .int)) (by decide) (by decide)))
  have f297 := f280.other W291 (Or.inr (slot_ne (Or.inl (hw _ (List.mem_of_getElem? (i := 33) rfl))) (Or.inl (hw _ (List.mem_of_getElem? (i := 30) rfl))) (by decide) (t := (.array .long)) (t' := (.array .int)) (by decide) (by decide)))
  have f298 := f281.other W291 (Or.inr (slot_ne (Or.inl (hw _ (List.mem_of_getElem? (i := 35) rfl))) (Or.inl (hw _ (List.mem_of_getElem? (i := 30) rfl))) (by decide) (t := (.array .long)) (t' := (.array .int)) (by decide) (by decide)))
  have f299 := f282.other W291 (Or.inr (slot_ne (Or.inl (hw _ (List.mem_of_getElem? (i := 26) rfl))) (Or.inl (hw _ (List.mem_of_getElem? (i := 30) rfl))) (by decide) (t := (.array .int)) (t' := (.array .int)) (by decide) (by decide)))
  have f300 := f283.other W291 (Or.inr (slot_ne (Or.inl (hw _ (List.mem_of_getElem? (i := 42) rfl))) (Or.inl (hw _ (List.mem_of_getElem? (i := 30) rfl))) (by decide) (t := .int) (t' := (.array .int)) (by decide) (by decide)))
  have f301 := f284.other W291 (Or.inr (slot_ne (Or.inl (hw _ (List.mem_of_getElem? (i := 51) rfl))) (Or.inl (hw _ (List.mem_of_getElem? (i := 30) rfl))) (by decide) (t := .int) (t' := (.array .int)) (by decide) (by decide)))
  have f302 := f285.other W291 (Or.inr (slot_ne (Or.inl (hw _ (List.mem_of_getElem? (i := 53) rfl))) (Or.inl (hw _ (List.mem_of_getElem? (i := 30) rfl))) (by decide) (t := .int) (t' := (.array .int)) (by decide) (by decide)))
  have f303 := f286.other W291 (Ne.symm ne103)
  have f304 := f287.other W291 (Ne.symm ne130)
  have f305 := f288.other W291 (Ne.symm ne160)
  have f306 := f289.other W291 (Ne.symm ne193)
  have f307 := f290.other W291 (Ne.symm ne229)
  have f308 := A267.other W291 (Ne.symm ne268)
  have K291 : Keep h0 h291 [ao] := K267.wr W291 (Or.inl (List.mem_of_getElem? (i := 0) rfl))
  refine W.s1 (mkF m 55 #[.val (.ref ao)] [(.ref ao)]) (fun _ kx_ => XS.aloadN X291.here hx rfl (hb hby d1_54) rfl rfl kx_) ?_
  refine W.s1 (mkF m 57 #[.val (.ref ao)] [(.int (8 : Int32)), (.ref ao)]) (fun _ kx_ => XS.bipush X291.here hx rfl (hb hby d1_55) kx_) ?_
  refine W.newj X291 hx hZ (hw _ (List.mem_of_getElem? (i := 31) rfl)) e291 (hb hby d1_57) (n := 8) rfl (cap := 8) (Nat.le_refl _) (by decide) (by decide) (by decide) (pc' := 59) rfl (fun T309 h309 zl X309 e309 E309 g309 A309 => ?_)
  have ne310 : ao ≠ zl := Nat.ne_of_lt (Nat.lt_of_lt_of_le f292.lt (Nat.le_of_eq g309.symm))
  have ne311 : zi ≠ zl := Nat.ne_of_lt (Nat.lt_of_lt_of_le f303.lt (Nat.le_of_eq g309.symm))
  have ne312 : zd ≠ zl := Nat.ne_of_lt (Nat.lt_of_lt_of_le f304.lt (Nat.le_of_eq g309.symm))
  have ne313 : zs ≠ zl := Nat.ne_of_lt (Nat.lt_of_lt_of_le f305.lt (Nat.le_of_eq g309.symm))
  have ne314 : zf ≠ zl := Nat.ne_of_lt (Nat.lt_of_lt_of_le f306.lt (Nat.le_of_eq g309.symm))
  have ne315 : zm ≠ zl := Nat.ne_of_lt (Nat.lt_of_lt_of_le f307.lt (Nat.le_of_eq g309.symm))
  have ne316 : zt ≠ zl := Nat.ne_of_lt (Nat.lt_of_lt_of_le f308.lt (Nat.le_of_eq g309.symm))
  have ge309 : n0 ≤ zl := Nat.le_trans Z291 (Nat.le_of_eq g309.symm)
  have sz309 : h0.size ≤ zl := Nat.le_trans K291.1 (Nat.le_of_eq g309.symm)
  have Z309 : n0 ≤ h309.size := Nat.le_trans Z291 E309.1
  have K309 : Keep h0 h309 [ao] := K291.ext E309
  have f317 := f292.ext E309
  have f318 := f293.ext E309
  have f319 := f294.ext E309
  have f320 := f295.ext E309
  have f321 := f296.ext E309
  have f322 := fw291.ext E309
  have f323 := f297.ext E309
  have f324 := f298.ext E309
  have f325 := f299.ext E309
  have f326 := f300.ext E309
  have f327 := f301.ext E309
  have f328 := f302.ext E309
  have f329 := f303.ext E309
  have f330 := f304.ext E309
  have f331 := f305.ext E309
  have f332 := f306.ext E309
  have f333 := f307.ext E309
  have f334 := f308.ext E309
  refine W.putf X309 hx hZ hown (host := "") (Or.inl (hw _ (List.mem_of_getElem? (i := 32) rfl))) Via.refl e309 f323 f317 (Or.inl (hw _ (List.mem_of_getElem? (i := 33) rfl))) (hw _ (List.mem_of_getElem? (i := 6) rfl)) (ty := (.array .long)) (by decide) rfl rfl N291 g0 (hb hby d1_59) (pc' := 62) rfl (fun T335 h335 L335 X335 e335 W335 fw335 N335 => ?_)
  have Z335 : n0 ≤ h335.size := Nat.le_trans Z309 (Keep.of_wr W335).1
  have f336 := f317.wr W335
  have f337 := f318.other W335 (Or.inr (slot_ne (Or.inl (hw _ (List.mem_of_getElem? (i := 17) rfl))) (Or.inl (hw _ (List.mem_of_getElem? (i := 33) rfl))) (by decide) (t := (.array (.array .int))) (t' := (.array .long)) (by decide) (by decide)))
  have f338 := f319.other W335 (Or.inr (slot_ne (Or.inl (hw _ (List.mem_of_getElem? (i := 20) rfl))) (Or.inl (hw _ (List.mem_of_getElem? (i := 33) rfl))) (by decide) (t := (.array .int)) (t' := (.array .long)) (by decide) (by decide)))
  have f339 := f320.other W335 (Or.inr (slot_ne (Or.inl (hw _ (List.mem_of_getElem? (i := 24) rfl))) (Or.inl (hw _ (List.mem_of_getElem? (i := 33) rfl))) (by decide) (t := (.array (.object "com/example/tempora/tempora/PointStatus"))) (t' := (.array .long)) (by decide) (by decide)))
  have f340 := f321.other W335 (Or.inr (slot_ne (Or.inl (hw _ (List.mem_of_getElem? (i := 28) rfl))) (Or.inl (hw _ (List.mem_of_getElem? (i := 33) rfl))) (by decide) (t := (.array .int)) (t' := (.array .long)) (by decide) (by decide)))
  have f341 := f322.other W335 (Or.inr (slot_ne (Or.inl (hw _ (List.mem_of_getElem? (i := 30) rfl))) (Or.inl (hw _ (List.mem_of_getElem? (i := 33) rfl))) (by decide) (t := (.array .int)) (t' := (.array .long)) (by decide) (by decide)))
  have f342 := f324.other W335 (Or.inr (slot_ne (Or.inl (hw _ (List.mem_of_getElem? (i := 35) rfl))) (Or.inl (hw _ (List.mem_of_getElem? (i := 33) rfl))) (by decide) (t := (.array .long)) (t' := (.array .long)) (by decide) (by decide)))
  have f343 := f325.other W335 (Or.inr (slot_ne (Or.inl (hw _ (List.mem_of_getElem? (i := 26) rfl))) (Or.inl (hw _ (List.mem_of_getElem? (i := 33) rfl))) (by decide) (t := (.array .int)) (t' := (.array .long)) (by decide) (by decide)))
  have f344 := f326.other W335 (Or.inr (slot_ne (Or.inl (hw _ (List.mem_of_getElem? (i := 42) rfl))) (Or.inl (hw _ (List.mem_of_getElem? (i := 33) rfl))) (by decide) (t := .int) (t' := (.array .long)) (by decide) (by decide)))
  have f345 := f327.other W335 (Or.inr (slot_ne (Or.inl (hw _ (List.mem_of_getElem? (i := 51) rfl))) (Or.inl (hw _ (List.mem_of_getElem? (i := 33) rfl))) (by decide) (t := .int) (t' := (.array .long)) (by decide) (by decide)))
  have f346 := f328.other W335 (Or.inr (slot_ne (Or.inl (hw _ (List.mem_of_getElem? (i := 53) rfl))) (Or.inl (hw _ (List.mem_of_getElem? (i := 33) rfl))) (by decide) (t := .int) (t' := (.array .long)) (by decide) (by decide)))
  have f347 := f329.other W335 (Ne.symm ne103)
  have f348 := f330.other W335 (Ne.symm ne130)
  have f349 := f331.other W335 (Ne.symm ne160)
  have f350 := f332.other W335 (Ne.symm ne193)
  have f351 := f333.other W335 (Ne.symm ne229)
  have f352 := f334.other W335 (Ne.symm ne268)
  have f353 := A309.other W335 (Ne.symm ne310)
  have K335 : Keep h0 h335 [ao] := K309.wr W335 (Or.inl (List.mem_of_getElem? (i := 0) rfl))
  refine W.s1 (mkF m 63 #[.val (.ref ao)] [(.ref ao)]) (fun _ kx_ => XS.aloadN X335.here hx rfl (hb hby d1_62) rfl rfl kx_) ?_
  refine W.s1 (mkF m 65 #[.val (.ref ao)] [(.int (8 : Int32)), (.ref ao)]) (fun _ kx_ => XS.bipush X335.here hx rfl (hb hby d1_63) kx_) ?_
  refine W.newj X335 hx hZ (hw _ (List.mem_of_getElem? (i := 31) rfl)) e335 (hb hby d1_65) (n := 8) rfl (cap := 8) (Nat.le_refl _) (by decide) (by decide) (by decide) (pc' := 67) rfl (fun T354 h354 zh X354 e354 E354 g354 A354 => ?_)
  have ne355 : ao ≠ zh := Nat.ne_of_lt (Nat.lt_of_lt_of_le f336.lt (Nat.le_of_eq g354.symm))
  have ne356 : zi ≠ zh := Nat.ne_of_lt (Nat.lt_of_lt_of_le f347.lt (Nat.le_of_eq g354.symm))
  have ne357 : zd ≠ zh := Nat.ne_of_lt (Nat.lt_of_lt_of_le f348.lt (Nat.le_of_eq g354.symm))
  have ne358 : zs ≠ zh := Nat.ne_of_lt (Nat.lt_of_lt_of_le f349.lt (Nat.le_of_eq g354.symm))
  have ne359 : zf ≠ zh := Nat.ne_of_lt (Nat.lt_of_lt_of_le f350.lt (Nat.le_of_eq g354.symm))
  have ne360 : zm ≠ zh := Nat.ne_of_lt (Nat.lt_of_lt_of_le f351.lt (Nat.le_of_eq g354.symm))
  have ne361 : zt ≠ zh := Nat.ne_of_lt (Nat.lt_of_lt_of_le f352.lt (Nat.le_of_eq g354.symm))
  have ne362 : zl ≠ zh := Nat.ne_of_lt (Nat.lt_of_lt_of_le f353.lt (Nat.le_of_eq g354.symm))
  have ge354 : n0 ≤ zh := Nat.le_trans Z335 (Nat.le_of_eq g354.symm)
  have sz354 : h0.size ≤ zh := Nat.le_trans K335.1 (Nat.le_of_eq g354.symm)
  have Z354 : n0 ≤ h354.size := Nat.le_trans Z335 E354.1
  have K354 : Keep h0 h354 [ao] := K335.ext E354
  have f363 := f336.ext E354
  have f364 := f337.ext E354
  have f365 := f338.ext E354
  have f366 := f339.ext E354
  have f367 := f340.ext E354
  have f368 := f341.ext E354
  have f369 := fw335.ext E354
  have f370 := f342.ext E354
  have f371 := f343.ext E354
  have f372 := f344.ext E354
  have f373 := f345.ext E354
  have f374 := f346.ext E354
  have f375 := f347.ext E354
  have f376 := f348.ext E354
  have f377 := f349.ext E354
  have f378 := f350.ext E354
  have f379 := f351.ext E354
  have f380 := f352.ext E354
  have f381 := f353.ext E354
  refine W.putf X354 hx hZ hown (host := "") (Or.inl (hw _ (List.mem_of_getElem? (i := 34) rfl))) Via.refl e354 f370 f363 (Or.inl (hw _ (List.mem_of_getElem? (i := 35) rfl))) (hw _ (List.mem_of_getElem? (i := 6) rfl)) (ty := (.array .long)) (by decide) rfl rfl N335 g0 (hb hby d1_67) (pc' := 70) rfl (fun T382 h382 L382 X382 e382 W382 fw382 N382 => ?_)
  have Z382 : n0 ≤ h382.size := Nat.le_trans Z354 (Keep.of_wr W382).1
  have f383 := f363.wr W382
  have f384 := f364.other W382 (Or.inr (slot_ne (Or.inl (hw _ (List.mem_of_getElem? (i := 17) rfl))) (Or.inl (hw _ (List.mem_of_getElem? (i := 35) rfl))) (by decide) (t := (.array (.array .int))) (t' := (.array .long)) (by decide) (by decide)))
  have f385 := f365.other W382 (Or.inr (slot_ne (Or.inl (hw _ (List.mem_of_getElem? (i := 20) rfl))) (Or.inl (hw _ (List.mem_of_getElem? (i := 35) rfl))) (by decide) (t := (.array .int)) (t' := (.array .long)) (by decide) (by decide)))
  have f386 := f366.other W382 (Or.inr (slot_ne (Or.inl (hw _ (List.mem_of_getElem? (i := 24) rfl))) (Or.inl (hw _ (List.mem_of_getElem? (i := 35) rfl))) (by decide) (t := (.array (.object "com/example/tempora/tempora/PointStatus"))) (t' := (.array .long)) (by decide) (by decide)))
  have f387 := f367.other W382 (Or.inr (slot_ne (Or.inl (hw _ (List.mem_of_getElem? (i := 28) rfl))) (Or.inl (hw _ (List.mem_of_getElem? (i := 35) rfl))) (by decide) (t := (.array .int)) (t' := (.array .long)) (by decide) (by decide)))
  have f388 := f368.other W382 (Or.inr (slot_ne (Or.inl (hw _ (List.mem_of_getElem? (i := 30) rfl))) (Or.inl (hw _ (List.mem_of_getElem? (i := 35) rfl))) (by decide) (t := (.array .int)) (t' := (.array .long)) (by decide) (by decide)))
  have f389 := f369.other W382 (Or.inr (slot_ne (Or.inl (hw _ (List.mem_of_getElem? (i := 33) rfl))) (Or.inl (hw _ (List.mem_of_getElem? (i := 35) rfl))) (by decide) (t := (.array .long)) (t' := (.array .long)) (by decide) (by decide)))
  have f390 := f371.other W382 (Or.inr (slot_ne (Or.inl (hw _ (List.mem_of_getElem? (i := 26) rfl))) (Or.inl (hw _ (List.mem_of_getElem? (i := 35) rfl))) (by decide) (t := (.array .int)) (t' := (.array .long)) (by decide) (by decide)))
  have f391 := f372.other W382 (Or.inr (slot_ne (Or.inl (hw _ (List.mem_of_getElem? (i := 42) rfl))) (Or.inl (hw _ (List.mem_of_getElem? (i := 35) rfl))) (by decide) (t := .int) (t' := (.array .long)) (by decide) (by decide)))
  have f392 := f373.other W382 (Or.inr (slot_ne (Or.inl (hw _ (List.mem_of_getElem? (i := 51) rfl))) (Or.inl (hw _ (List.mem_of_getElem? (i := 35) rfl))) (by decide) (t := .int) (t' := (.array .long)) (by decide) (by decide)))
  have f393 := f374.other W382 (Or.inr (slot_ne (Or.inl (hw _ (List.mem_of_getElem? (i := 53) rfl))) (Or.inl (hw _ (List.mem_of_getElem? (i := 35) rfl))) (by decide) (t := .int) (t' := (.array .long)) (by decide) (by decide)))
  have f394 := f375.other W382 (Ne.symm ne103)
  have f395 := f376.other W382 (Ne.symm ne130)
  have f396 := f377.other W382 (Ne.symm ne160)
  have f397 := f378.other W382 (Ne.symm ne193)
  have f398 := f379.other W382 (Ne.symm ne229)
  have f399 := f380.other W382 (Ne.symm ne268)
  have f400 := f381.other W382 (Ne.symm ne310)
  have f401 := A354.other W382 (Ne.symm ne355)
  have K382 : Keep h0 h382 [ao] := K354.wr W382 (Or.inl (List.mem_of_getElem? (i := 0) rfl))
  exact W.ret0 X382 hx hlk Bd.returns (hb hby d1_70) (by show Q1 Z ao u_incident u_degree u_status u_from u_to u_lo u_hi u_free h0 n0 _ T382.heap _; rw [e382]; exact ⟨rfl, N382, K382, zi, zd, zs, zm, zt, zl, zh, ⟨ne103, ne130, ne160, ne229, ne268, ne310, ne355, ne131, ne161, ne230, ne269, ne311, ne356, ne162, ne231, ne270, ne312, ne357, ne232, ne271, ne313, ne358, ne273, ne315, ne360, ne316, ne361, ne362⟩, ⟨g0, ge102, ge129, ge159, ge228, ge267, ge309, ge354⟩, ⟨_, _, f383, f384, f385, f386, f387, f388, f389, fw382, f391, f392, f393, f394, f395, f396, f398, f399, f400, f401⟩⟩) (by decide) (by decide)
theorem ef_6 (m : MethodId) (x0 : Int32) (x1 : Int32) : entryFrame m #[(.int x0), (.int x1)] 2 = mkF m 0 #[.val (.int x0), .val (.int x1)] [] := by first | (simp [entryFrame, mkF, argsToLocals, Value.category]; done) | rfl
theorem d6_0 : decode jdk_29_method_65_code 0 = .ok (.iload_n 0, 1) := by decide +kernel
theorem d6_1 : decode jdk_29_method_65_code 1 = .ok (.iload_n 1, 1) := by decide +kernel
theorem d6_2 : decode jdk_29_method_65_code 2 = .ok (.if_icmp .lt 7, 3) := by decide +kernel
theorem d6_9 : decode jdk_29_method_65_code 9 = .ok (.iload_n 1, 1) := by decide +kernel
theorem d6_10 : decode jdk_29_method_65_code 10 = .ok (.ireturn, 1) := by decide +kernel
theorem d6_5 : decode jdk_29_method_65_code 5 = .ok (.iload_n 0, 1) := by decide +kernel
theorem d6_6 : decode jdk_29_method_65_code 6 = .ok (.goto 4, 3) := by decide +kernel
def Q6 (Z : State) (xa : Int32) (xb : Int32) (h0 : Heap) (n0 : Nat) (v : Option Value) (h : Heap) (L : List Loc) : Prop := ∃ r : Int32, v = some (.int r) ∧ Fr n0 L ∧ h = h0 ∧ ((r = xa ∧ ¬ xa < xb) ∨ (r = xb ∧ xa < xb))
set_option maxRecDepth 65536 in
set_option maxHeartbeats 40000000 in
theorem rm6 (l : Launch) (Z : State) (a0 : Array Value) (hw : ∀ d ∈ tables_1, d.before a0 Z = true) (ws : List Jvm.Cond) (xa : Int32) (xb : Int32) (h0 : Heap) (n0 : Nat) (Z0 : n0 ≤ h0.size) :
    MetFree l (⟨"java/lang/Math", "max", "(II)I"⟩ : MethodName) (head1 (Jvm.Cond.code (⟨"java/lang/Math", "max", "(II)I"⟩ : MethodName) jdk_29_method_65_code 2 (some .int) :: ws) ({ frames := 0, cells := 0, slots := 0, locals := 0 } : Room)) (fun a U => a = #[(.int xa), (.int xb)] ∧ Z.Warmed39 U.vm ∧ U.heap = h0) (fun _ _ _ _ _ => True) (fun _ U o U' => ∃ v L, o = .returned v ∧ Q6 Z xa xb h0 n0 v U'.heap L ∧ FrameEnd U o U' L ({ frames := 0, cells := 0, slots := 0, locals := 0 } : Room).cells ({ frames := 0, cells := 0, slots := 0, locals := 0 } : Room).slots) := by
  refine MetFree.of_bodySF (Jvm.Free.JP.mathPlain rfl (by decide +kernel)) hisR ?_
  intro p e s m args below meth c s₁ Bd hml0 hP hK
  obtain ⟨rfl, hZ, hh⟩ := hP
  have hx := Bd.exec
  have hby := Bd.bytes
  have hml : c.maxLocals = 2 := hml0
  have hown : s.vm.findClass "java/lang/Math" = some m.cls := findClass_of_methodNamed Bd.named
  have hnm := (name_of_methodNamed Bd.named Bd.method).1
  have hlk : meth.locks = false := BodyLoose.notSynchronized Bd
  have X0 : Stand p l e ({ frames := 0, cells := 0, slots := 0, locals := 0 } : Room) s m #[(.int xa), (.int xb)] below meth c s₁ [] 0 0 := Stand.of_body Bd
  have e0 : s₁.heap = h0 := by rw [← hh, Bd.state]; rfl
  have N0 := Fr.nil n0
  show W.Gl p e below s (Q6 Z xa xb h0 n0) ({ frames := 0, cells := 0, slots := 0, locals := 0 } : Room).cells ({ frames := 0, cells := 0, slots := 0, locals := 0 } : Room).slots s₁ (entryFrame m #[(.int xa), (.int xb)] 2)
  refine W.cast (ef_6 m xa xb) ?_
  refine W.s1 (mkF m 1 #[.val (.int xa), .val (.int xb)] [(.int xa)]) (fun _ kx_ => XS.iloadN X0.here hx rfl (hb hby d6_0) rfl kx_) ?_
  refine W.s1 (mkF m 2 #[.val (.int xa), .val (.int xb)] [(.int xb), (.int xa)]) (fun _ kx_ => XS.iloadN X0.here hx rfl (hb hby d6_1) rfl kx_) ?_
  refine W.icmp X0 hx (hb hby d6_2) (pc' := 9) (pc'' := 5) (by decide) (by decide) rfl (fun (c2 : xa < xb) => ?_) (fun (c2 : ¬ xa < xb) => ?_)
  · refine W.s1 (mkF m 10 #[.val (.int xa), .val (.int xb)] [(.int xb)]) (fun _ kx_ => XS.iloadN X0.here hx rfl (hb hby d6_9) rfl kx_) ?_
    exact W.retI X0 hx hlk Bd.returns (hb hby d6_10) (by show Q6 Z xa xb h0 n0 _ s₁.heap _; rw [e0]; exact ⟨_, rfl, N0, rfl, Or.inr ⟨rfl, c2⟩⟩) (by decide) (by decide)
  · refine W.s1 (mkF m 6 #[.val (.int xa), .val (.int xb)] [(.int xa)]) (fun _ kx_ => XS.iloadN X0.here hx rfl (hb hby d6_5) rfl kx_) ?_
    refine W.s1 (mkF m 10 #[.val (.int xa), .val (.int xb)] [(.int xa)]) (fun _ kx_ => XS.goto X0.here hx rfl (pc0 := 6) (pc' := 10) rfl (hb hby d6_6) (by decide) (by decide) kx_) ?_
    exact W.retI X0 hx hlk Bd.returns (hb hby d6_10) (by show Q6 Z xa xb h0 n0 _ s₁.heap _; rw [e0]; exact ⟨_, rfl, N0, rfl, Or.inl ⟨rfl, c2⟩⟩) (by decide) (by decide)
theorem ef_8 (m : MethodId) (x0 : Int32) (x1 : Int32) : entryFrame m #[(.int x0), (.int x1)] 2 = mkF m 0 #[.val (.int x0), .val (.int x1)] [] := by first | (simp [entryFrame, mkF, argsToLocals, Value.category]; done) | rfl
theorem d8_0 : decode jdk_29_method_69_code 0 = .ok (.iload_n 0, 1) := by decide +kernel
theorem d8_1 : decode jdk_29_method_69_code 1 = .ok (.iload_n 1, 1) := by decide +kernel
theorem d8_2 : decode jdk_29_method_69_code 2 = .ok (.if_icmp .gt 7, 3) := by decide +kernel
theorem d8_9 : decode jdk_29_method_69_code 9 = .ok (.iload_n 1, 1) := by decide +kernel
theorem d8_10 : decode jdk_29_method_69_code 10 = .ok (.ireturn, 1) := by decide +kernel
theorem d8_5 : decode jdk_29_method_69_code 5 = .ok (.iload_n 0, 1) := by decide +kernel
theorem d8_6 : decode jdk_29_method_69_code 6 = .ok (.goto 4, 3) := by decide +kernel
def Q8 (Z : State) (xa : Int32) (xb : Int32) (h0 : Heap) (n0 : Nat) (v : Option Value) (h : Heap) (L : List Loc) : Prop := ∃ r : Int32, v = some (.int r) ∧ Fr n0 L ∧ h = h0 ∧ ((r = xa ∧ ¬ xb < xa) ∨ (r = xb ∧ xb < xa))
set_option maxRecDepth 65536 in
set_option maxHeartbeats 40000000 in
theorem rm8 (l : Launch) (Z : State) (a0 : Array Value) (hw : ∀ d ∈ tables_1, d.before a0 Z = true) (ws : List Jvm.Cond) (xa : Int32) (xb : Int32) (h0 : Heap) (n0 : Nat) (Z0 : n0 ≤ h0.size) :
    MetFree l (⟨"java/lang/Math", "min", "(II)I"⟩ : MethodName) (head1 (Jvm.Cond.code (⟨"java/lang/Math", "min", "(II)I"⟩ : MethodName) jdk_29_method_69_code 2 (some .int) :: ws) ({ frames := 0, cells := 0, slots := 0, locals := 0 } : Room)) (fun a U => a = #[(.int xa), (.int xb)] ∧ Z.Warmed39 U.vm ∧ U.heap = h0) (fun _ _ _ _ _ => True) (fun _ U o U' => ∃ v L, o = .returned v ∧ Q8 Z xa xb h0 n0 v U'.heap L ∧ FrameEnd U o U' L ({ frames := 0, cells := 0, slots := 0, locals := 0 } : Room).cells ({ frames := 0, cells := 0, slots := 0, locals := 0 } : Room).slots) := by
  refine MetFree.of_bodySF (Jvm.Free.JP.mathPlain rfl (by decide +kernel)) hisR ?_
  intro p e s m args below meth c s₁ Bd hml0 hP hK
  obtain ⟨rfl, hZ, hh⟩ := hP
  have hx := Bd.exec
  have hby := Bd.bytes
  have hml : c.maxLocals = 2 := hml0
  have hown : s.vm.findClass "java/lang/Math" = some m.cls := findClass_of_methodNamed Bd.named
  have hnm := (name_of_methodNamed Bd.named Bd.method).1
  have hlk : meth.locks = false := BodyLoose.notSynchronized Bd
  have X0 : Stand p l e ({ frames := 0, cells := 0, slots := 0, locals := 0 } : Room) s m #[(.int xa), (.int xb)] below meth c s₁ [] 0 0 := Stand.of_body Bd
  have e0 : s₁.heap = h0 := by rw [← hh, Bd.state]; rfl
  have N0 := Fr.nil n0
  show W.Gl p e below s (Q8 Z xa xb h0 n0) ({ frames := 0, cells := 0, slots := 0, locals := 0 } : Room).cells ({ frames := 0, cells := 0, slots := 0, locals := 0 } : Room).slots s₁ (entryFrame m #[(.int xa), (.int xb)] 2)
  refine W.cast (ef_8 m xa xb) ?_
  refine W.s1 (mkF m 1 #[.val (.int xa), .val (.int xb)] [(.int xa)]) (fun _ kx_ => XS.iloadN X0.here hx rfl (hb hby d8_0) rfl kx_) ?_
  refine W.s1 (mkF m 2 #[.val (.int xa), .val (.int xb)] [(.int xb), (.int xa)]) (fun _ kx_ => XS.iloadN X0.here hx rfl (hb hby d8_1) rfl kx_) ?_
  refine W.icmp X0 hx (hb hby d8_2) (pc' := 9) (pc'' := 5) (by decide) (by decide) rfl (fun (c2 : xb < xa) => ?_) (fun (c2 : ¬ xb < xa) => ?_)
  · refine W.s1 (mkF m 10 #[.val (.int xa), .val (.int xb)] [(.int xb)]) (fun _ kx_ => XS.iloadN X0.here hx rfl (hb hby d8_9) rfl kx_) ?_
    exact W.retI X0 hx hlk Bd.returns (hb hby d8_10) (by show Q8 Z xa xb h0 n0 _ s₁.heap _; rw [e0]; exact ⟨_, rfl, N0, rfl, Or.inr ⟨rfl, c2⟩⟩) (by decide) (by decide)
  · refine W.s1 (mkF m 6 #[.val (.int xa), .val (.int xb)] [(.int xa)]) (fun _ kx_ => XS.iloadN X0.here hx rfl (hb hby d8_5) rfl kx_) ?_
    refine W.s1 (mkF m 10 #[.val (.int xa), .val (.int xb)] [(.int xa)]) (fun _ kx_ => XS.goto X0.here hx rfl (pc0 := 6) (pc' := 10) rfl (hb hby d8_6) (by decide) (by decide) kx_) ?_
    exact W.retI X0 hx hlk Bd.returns (hb hby d8_10) (by show Q8 Z xa xb h0 n0 _ s₁.heap _; rw [e0]; exact ⟨_, rfl, N0, rfl, Or.inl ⟨rfl, c2⟩⟩) (by decide) (by decide)
theorem pn_1 : plainName "java/util/Arrays" = true := by first | (simp [plainName, overriddenIn]; done) | decide +kernel
theorem ef_7 (m : MethodId) (x0 : Addr) (x1 : Int32) : entryFrame m #[(.ref x0), (.int x1)] 3 = mkF m 0 #[.val (.ref x0), .val (.int x1), .unset] [] := by first | (simp [entryFrame, mkF, argsToLocals, Value.category]; done) | rfl
theorem d7_0 : decode jdk_65_method_123_code 0 = .ok (.iload_n 1, 1) := by decide +kernel
theorem d7_1 : decode jdk_65_method_123_code 1 = .ok (.aload_n 0, 1) := by decide +kernel
theorem d7_2 : decode jdk_65_method_123_code 2 = .ok (.arraylength, 1) := by decide +kernel
theorem d7_3 : decode jdk_65_method_123_code 3 = .ok (.if_icmp .ne 11, 3) := by decide +kernel
theorem d7_14 : decode jdk_65_method_123_code 14 = .ok (.iload_n 1, 1) := by decide +kernel
theorem d7_15 : decode jdk_65_method_123_code 15 = .ok (.newarray .int, 2) := by decide +kernel
theorem d7_17 : decode jdk_65_method_123_code 17 = .ok (.astore_n 2, 1) := by decide +kernel
theorem d7_18 : decode jdk_65_method_123_code 18 = .ok (.aload_n 0, 1) := by decide +kernel
theorem d7_19 : decode jdk_65_method_123_code 19 = .ok (.iconst 0, 1) := by decide +kernel
theorem d7_20 : decode jdk_65_method_123_code 20 = .ok (.aload_n 2, 1) := by decide +kernel
theorem d7_21 : decode jdk_65_method_123_code 21 = .ok (.iconst 0, 1) := by decide +kernel
theorem d7_22 : decode jdk_65_method_123_code 22 = .ok (.aload_n 0, 1) := by decide +kernel
theorem d7_23 : decode jdk_65_method_123_code 23 = .ok (.arraylength, 1) := by decide +kernel
theorem d7_24 : decode jdk_65_method_123_code 24 = .ok (.iload_n 1, 1) := by decide +kernel
theorem d7_25 : decode jdk_65_method_123_code 25 = .ok (.invokestatic 304, 3) := by decide +kernel
theorem pd_0 : parseMethodDescriptor "(II)I" = some ⟨[.int, .int], some .int⟩ := by decide +kernel
theorem d7_28 : decode jdk_65_method_123_code 28 = .ok (.invokestatic 150, 3) := by decide +kernel
theorem d7_31 : decode jdk_65_method_123_code 31 = .ok (.aload_n 2, 1) := by decide +kernel
theorem d7_32 : decode jdk_65_method_123_code 32 = .ok (.areturn, 1) := by decide +kernel
def Q7 (Z : State) (ao : Addr) (xl : Int32) (n : Nat) (k : Nat) (xz : Int32) (f : Nat → Int32) (h0 : Heap) (n0 : Nat) (v : Option Value) (h : Heap) (L : List Loc) : Prop := ∃ (b : Addr) (f2 : Nat → Int32), v = some (.ref b) ∧ Fr n0 L ∧ Keep h0 h [] ∧ h0.size ≤ b ∧ b < h.size ∧ W.AI Z h b .int k f2 ∧ Exa Z h b "[I"
set_option maxRecDepth 65536 in
set_option maxHeartbeats 40000000 in
theorem rm7 (l : Launch) (Z : State) (a0 : Array Value) (hw : ∀ d ∈ tables_1, d.before a0 Z = true) (ws : List Jvm.Cond) (ao : Addr) (xl : Int32) (n : Nat) (k : Nat) (xz : Int32) (f : Nat → Int32) (h0 : Heap) (n0 : Nat) (Z0 : n0 ≤ h0.size) (hz : xz.toInt = n) (hl : xl.toInt = k) (hc : k ≤ 2) (A0 : W.AI Z h0 ao .int n f) (hne : k ≠ n) :
    MetFree l (⟨"java/util/Arrays", "copyOf", "([II)[I"⟩ : MethodName) (head1 (Jvm.Cond.code (⟨"java/util/Arrays", "copyOf", "([II)[I"⟩ : MethodName) jdk_65_method_123_code 3 (some (.array .int)) :: ws) ({ frames := 1, cells := 1, slots := 2, locals := 18 } : Room)) (fun a U => a = #[(.ref ao), (.int xl)] ∧ Z.Warmed39 U.vm ∧ U.heap = h0) (fun _ _ _ _ _ => True) (fun _ U o U' => ∃ v L, o = .returned v ∧ Q7 Z ao xl n k xz f h0 n0 v U'.heap L ∧ FrameEnd U o U' L ({ frames := 1, cells := 1, slots := 2, locals := 18 } : Room).cells ({ frames := 1, cells := 1, slots := 2, locals := 18 } : Room).slots) := by
  refine MetFree.of_bodySF (plainFor_of_name pn_1) hisR ?_
  intro p e s m args below meth c s₁ Bd hml0 hP hK
  obtain ⟨rfl, hZ, hh⟩ := hP
  have hx := Bd.exec
  have hby := Bd.bytes
  have hml : c.maxLocals = 3 := hml0
  have hown : s.vm.findClass "java/util/Arrays" = some m.cls := findClass_of_methodNamed Bd.named
  have hnm := (name_of_methodNamed Bd.named Bd.method).1
  have hlk : meth.locks = false := BodyLoose.notSynchronized Bd
  have X0 : Stand p l e ({ frames := 1, cells := 1, slots := 2, locals := 18 } : Room) s m #[(.ref ao), (.int xl)] below meth c s₁ [] 0 0 := Stand.of_body Bd
  have e0 : s₁.heap = h0 := by rw [← hh, Bd.state]; rfl
  have N0 := Fr.nil n0
  show W.Gl p e below s (Q7 Z ao xl n k xz f h0 n0) ({ frames := 1, cells := 1, slots := 2, locals := 18 } : Room).cells ({ frames := 1, cells := 1, slots := 2, locals := 18 } : Room).slots s₁ (entryFrame m #[(.ref ao), (.int xl)] 3)
  refine W.cast (ef_7 m ao xl) ?_
  have K0 : Keep h0 h0 [] := Keep.refl h0 []
  refine W.s1 (mkF m 1 #[.val (.ref ao), .val (.int xl), .unset] [(.int xl)]) (fun _ kx_ => XS.iloadN X0.here hx rfl (hb hby d7_0) rfl kx_) ?_
  refine W.s1 (mkF m 2 #[.val (.ref ao), .val (.int xl), .unset] [(.ref ao), (.int xl)]) (fun _ kx_ => XS.aloadN X0.here hx rfl (hb hby d7_1) rfl rfl kx_) ?_
  refine W.alen X0 hx hZ e0 A0 (z := xz) hz (hb hby d7_2) (pc' := 3) rfl ?_
  refine W.icmp X0 hx (hb hby d7_3) (pc' := 14) (pc'' := 6) (by decide) (by decide) rfl (fun (c3 : ¬ xl = xz) => ?_) (fun (c3 : xl = xz) => ?_)
  · refine W.s1 (mkF m 15 #[.val (.ref ao), .val (.int xl), .unset] [(.int xl)]) (fun _ kx_ => XS.iloadN X0.here hx rfl (hb hby d7_14) rfl kx_) ?_
    refine W.newie X0 hx hZ (ty := .int) (aty := .int) (hw _ (List.mem_of_getElem? (i := 18) rfl)) rfl rfl e0 (hb hby d7_15) (n := k) hl (cap := 2) hc (by decide) (by decide) (by decide) (ad := "[I") (by first | rfl | decide) (pc' := 17) rfl (fun T101 h101 ab X101 e101 E101 g101 A101 Ex101 => ?_)
    have ne102 : ao ≠ ab := Nat.ne_of_lt (Nat.lt_of_lt_of_le A0.lt (Nat.le_of_eq g101.symm))
    have ge101 : n0 ≤ ab := Nat.le_trans Z0 (Nat.le_of_eq g101.symm)
    have sz101 : h0.size ≤ ab := Nat.le_trans K0.1 (Nat.le_of_eq g101.symm)
    have Z101 : n0 ≤ h101.size := Nat.le_trans Z0 E101.1
    have K101 : Keep h0 h101 [] := K0.ext E101
    have f103 := A0.ext E101
    refine W.s1 (mkF m 18 #[.val (.ref ao), .val (.int xl), .val (.ref ab)] []) (fun _ kx_ => XS.astoreN X101.here hx rfl (hb hby d7_17) rfl rfl (l' := #[.val (.ref ao), .val (.int xl), .val (.ref ab)]) rfl kx_) ?_
    refine W.s1 (mkF m 19 #[.val (.ref ao), .val (.int xl), .val (.ref ab)] [(.ref ao)]) (fun _ kx_ => XS.aloadN X101.here hx rfl (hb hby d7_18) rfl rfl kx_) ?_
    refine W.s1 (mkF m 20 #[.val (.ref ao), .val (.int xl), .val (.ref ab)] [(.int (0 : Int32)), (.ref ao)]) (fun _ kx_ => XS.iconst X101.here hx rfl (hb hby d7_19) kx_) ?_
    refine W.s1 (mkF m 21 #[.val (.ref ao), .val (.int xl), .val (.ref ab)] [(.ref ab), (.int (0 : Int32)), (.ref ao)]) (fun _ kx_ => XS.aloadN X101.here hx rfl (hb hby d7_20) rfl rfl kx_) ?_
    refine W.s1 (mkF m 22 #[.val (.ref ao), .val (.int xl), .val (.ref ab)] [(.int (0 : Int32)), (.ref ab), (.int (0 : Int32)), (.ref ao)]) (fun _ kx_ => XS.iconst X101.here hx rfl (hb hby d7_21) kx_) ?_
    refine W.s1 (mkF m 23 #[.val (.ref ao), .val (.int xl), .val (.ref ab)] [(.ref ao), (.int (0 : Int32)), (.ref ab), (.int (0 : Int32)), (.ref ao)]) (fun _ kx_ => XS.aloadN X101.here hx rfl (hb hby d7_22) rfl rfl kx_) ?_
    refine W.alen X101 hx hZ e101 f103 (z := xz) hz (hb hby d7_23) (pc' := 24) rfl ?_
    refine W.s1 (mkF m 25 #[.val (.ref ao), .val (.int xl), .val (.ref ab)] [(.int xl), (.int xz), (.int (0 : Int32)), (.ref ab), (.int (0 : Int32)), (.ref ao)]) (fun _ kx_ => XS.iloadN X101.here hx rfl (hb hby d7_24) rfl kx_) ?_
    obtain ⟨_, _, ⟨T104, L104, k104, n104⟩, -, X104, ⟨Lc104, hQ104, l104, y104, z104⟩, st104⟩ := Jvm.LawKit.callS X101 hx (y := (⟨"java/lang/Math", "min", "(II)I"⟩ : MethodName)) hown (mvT hZ (hw _ (List.mem_of_getElem? (i := 66) rfl))) (mvT hZ (hw _ (List.mem_of_getElem? (i := 67) rfl))) (mvT hZ (hw _ (List.mem_of_getElem? (i := 60) rfl))) (mvT hZ (hw _ (List.mem_of_getElem? (i := 68) rfl))) (by decide) (backOf (W := 4) (rm8 l Z a0 hw [] xz xl h101 n0 Z101 ) hZ (hw _ (List.mem_of_getElem? (i := 68) rfl)) (hw _ (List.mem_of_getElem? (i := 60) rfl)) (by decide) (by decide)) (g := (mkF m 25 #[.val (.ref ao), .val (.int xl), .val (.ref ab)] [(.int xl), (.int xz), (.int (0 : Int32)), (.ref ab), (.int (0 : Int32)), (.ref ao)])) rfl (by rw [hml]; rfl) (argsL := [(.int xz), (.int xl)]) (rest := [(.int (0 : Int32)), (.ref ab), (.int (0 : Int32)), (.ref ao)]) (lenOf pd_0 rfl) rfl (by show 2 * 0 + _ ≤ _; exact Nat.le_of_eq rfl) (hb hby d7_25) (fun _ _ => ⟨rfl, e101, (by decide : 1 + 0 ≤ _), (by decide : 2 + 0 ≤ _)⟩)
    dsimp only [Pt.U, Pt.locs, Pt.cells, Pt.slots] at X104 l104 y104 z104 st104 hQ104
    subst l104 y104 z104
    obtain ⟨xr, rfl, Nq104, eq104, hxr⟩ := hQ104
    have N104 := Fr.app N0 Nq104
    obtain ⟨kr, hr, hr1, hr2⟩ : ∃ j : Nat, xr.toInt = j ∧ j ≤ n ∧ j ≤ k := by rcases hxr with ⟨rfl, q⟩ | ⟨rfl, q⟩; rw [Int32.lt_iff_toInt_lt] at q; exact ⟨n, hz, Nat.le_refl _, by omega⟩; rw [Int32.lt_iff_toInt_lt] at q; exact ⟨k, hl, by omega, Nat.le_refl _⟩
    refine W.s2 (mkF m 28 #[.val (.ref ao), .val (.int xl), .val (.ref ab)] [(.int xr), (.int (0 : Int32)), (.ref ab), (.int (0 : Int32)), (.ref ao)]) st104 ?_
    refine W.cpi X104 hx hZ hown (hw _ (List.mem_of_getElem? (i := 69) rfl)) (hw _ (List.mem_of_getElem? (i := 72) rfl)) (hw _ (List.mem_of_getElem? (i := 70) rfl)) (hw _ (List.mem_of_getElem? (i := 71) rfl)) eq104 (k := kr) (z := xz) (z' := xl) f103 hz A101 hl hr hr1 hr2 N104 ge101 (by rw [hml]; rfl) (hb hby d7_28) (by decide) (Wd := 0) (by decide) (by decide) (pc' := 31) rfl (fun T105 h105 L105 X105 e105 N105 Kq105 A105 => ?_)
    have Z105 : n0 ≤ h105.size := Nat.le_trans Z101 Kq105.1
    have K105 : Keep h0 h105 [] := K101.trans Kq105 (allS (Or.inr sz101) all0)
    have f106 := f103.keep Kq105 (ninS ne102 nin0)
    have f108 := Ex101.keep Kq105
    refine W.s1 (mkF m 32 #[.val (.ref ao), .val (.int xl), .val (.ref ab)] [(.ref ab)]) (fun _ kx_ => XS.aloadN X105.here hx rfl (hb hby d7_31) rfl rfl kx_) ?_
    exact W.retA X105 hx hlk Bd.returns rfl rfl rfl (hb hby d7_32) (by show Q7 Z ao xl n k xz f h0 n0 _ T105.heap _; rw [e105]; exact ⟨_, _, rfl, N105, K105, sz101, A105.lt, A105, f108⟩) (by decide) (by decide)
  · exact absurd (by rw [c3] at hl; omega : k = n) hne
theorem ef_3 (m : MethodId) (x0 : Addr) (x1 : Addr) : entryFrame m #[(.ref x0), (.ref x1)] 2 = mkF m 0 #[.val (.ref x0), .val (.ref x1)] [] := by first | (simp [entryFrame, mkF, argsToLocals, Value.category]; done) | rfl
theorem d3_0 : decode prog_5_method_2_code 0 = .ok (.aload_n 0, 1) := by decide +kernel
theorem d3_1 : decode prog_5_method_2_code 1 = .ok (.getfield 40, 3) := by decide +kernel
theorem d3_4 : decode prog_5_method_2_code 4 = .ok (.aload_n 0, 1) := by decide +kernel
theorem d3_5 : decode prog_5_method_2_code 5 = .ok (.getfield 11, 3) := by decide +kernel
theorem d3_8 : decode prog_5_method_2_code 8 = .ok (.arraylength, 1) := by decide +kernel
theorem d3_9 : decode prog_5_method_2_code 9 = .ok (.if_icmp .ne 59, 3) := by decide +kernel
theorem d3_68 : decode prog_5_method_2_code 68 = .ok (.aload_n 0, 1) := by decide +kernel
theorem d3_69 : decode prog_5_method_2_code 69 = .ok (.getfield 11, 3) := by decide +kernel
theorem d3_72 : decode prog_5_method_2_code 72 = .ok (.aload_n 0, 1) := by decide +kernel
theorem d3_73 : decode prog_5_method_2_code 73 = .ok (.getfield 40, 3) := by decide +kernel
theorem d3_76 : decode prog_5_method_2_code 76 = .ok (.iconst 0, 1) := by decide +kernel
theorem d3_77 : decode prog_5_method_2_code 77 = .ok (.newarray .int, 2) := by decide +kernel
theorem d3_79 : decode prog_5_method_2_code 79 = .ok (.aastore, 1) := by decide +kernel
theorem d3_80 : decode prog_5_method_2_code 80 = .ok (.aload_n 0, 1) := by decide +kernel
theorem d3_81 : decode prog_5_method_2_code 81 = .ok (.getfield 20, 3) := by decide +kernel
theorem d3_84 : decode prog_5_method_2_code 84 = .ok (.aload_n 0, 1) := by decide +kernel
theorem d3_85 : decode prog_5_method_2_code 85 = .ok (.getfield 40, 3) := by decide +kernel
theorem d3_88 : decode prog_5_method_2_code 88 = .ok (.aload_n 1, 1) := by decide +kernel
theorem d3_89 : decode prog_5_method_2_code 89 = .ok (.aastore, 1) := by decide +kernel
theorem d3_90 : decode prog_5_method_2_code 90 = .ok (.aload_n 0, 1) := by decide +kernel
theorem d3_91 : decode prog_5_method_2_code 91 = .ok (.dup, 1) := by decide +kernel
theorem d3_92 : decode prog_5_method_2_code 92 = .ok (.getfield 40, 3) := by decide +kernel
theorem d3_95 : decode prog_5_method_2_code 95 = .ok (.dup_x1, 1) := by decide +kernel
theorem d3_96 : decode prog_5_method_2_code 96 = .ok (.iconst 1, 1) := by decide +kernel
theorem d3_97 : decode prog_5_method_2_code 97 = .ok (.iadd, 1) := by decide +kernel
theorem d3_98 : decode prog_5_method_2_code 98 = .ok (.putfield 40, 3) := by decide +kernel
theorem d3_101 : decode prog_5_method_2_code 101 = .ok (.ireturn, 1) := by decide +kernel
def Q3 (Z : State) (ao : Addr) (asx : Addr) (zi : Addr) (zd : Addr) (zs : Addr) (zm : Addr) (zt : Addr) (zl : Addr) (zh : Addr) (xpc : Int32) (xcc : Int32) (fi : Nat → Value) (fs : Nat → Value) (fd : Nat → Int32) (fl : Nat → Int64) (fh : Nat → Int64) (k : Nat) (h0 : Heap) (n0 : Nat) (v : Option Value) (h : Heap) (L : List Loc) : Prop := ∃ zb : Addr, v = some (.int xpc) ∧ Fr n0 L ∧ Keep h0 h [ao, zi, zs] ∧ h0.size ≤ zb ∧ W.AI Z h zb .int 0 (fun _ => 0) ∧ own_DG Z h ao zi zd zs zm zt zl zh (xpc + 1) xcc (W.up fi k (.ref zb)) (W.up fs k (.ref asx)) fd fl fh
set_option maxRecDepth 65536 in
set_option maxHeartbeats 40000000 in
theorem rm3 (l : Launch) (Z : State) (a0 : Array Value) (hw : ∀ d ∈ tables_1, d.before a0 Z = true) (ws : List Jvm.Cond) (ao : Addr) (asx : Addr) (zi : Addr) (zd : Addr) (zs : Addr) (zm : Addr) (zt : Addr) (zl : Addr) (zh : Addr) (xpc : Int32) (xcc : Int32) (fi : Nat → Value) (fs : Nat → Value) (fd : Nat → Int32) (fl : Nat → Int64) (fh : Nat → Int64) (k : Nat) (h0 : Heap) (n0 : Nat) (Z0 : n0 ≤ h0.size) (H0 : own_DG Z h0 ao zi zd zs zm zt zl zh xpc xcc fi fs fd fl fh) (ho : own_ord ao zi zd zs zm zt zl zh) (hge : own_ge n0 ao zi zd zs zm zt zl zh) (Es : Exa Z h0 asx "com/example/tempora/tempora/PointStatus") (hk : xpc.toInt = k) (hk8 : k < 8) :
    MetFree l (⟨"com/example/tempora/tempora/DistanceGraph", "addPoint", "(Lcom/example/tempora/tempora/PointStatus;)I"⟩ : MethodName) (head1 (Jvm.Cond.code (⟨"com/example/tempora/tempora/DistanceGraph", "addPoint", "(Lcom/example/tempora/tempora/PointStatus;)I"⟩ : MethodName) prog_5_method_2_code 2 (some .int) :: ws) ({ frames := 0, cells := 1, slots := 0, locals := 0 } : Room)) (fun a U => a = #[(.ref ao), (.ref asx)] ∧ Z.Warmed39 U.vm ∧ U.heap = h0) (fun _ _ _ _ _ => True) (fun _ U o U' => ∃ v L, o = .returned v ∧ Q3 Z ao asx zi zd zs zm zt zl zh xpc xcc fi fs fd fl fh k h0 n0 v U'.heap L ∧ FrameEnd U o U' L ({ frames := 0, cells := 1, slots := 0, locals := 0 } : Room).cells ({ frames := 0, cells := 1, slots := 0, locals := 0 } : Room).slots) := by
  refine MetFree.of_bodySF (plainFor_of_name pn_0) hisR ?_
  intro p e s m args below meth c s₁ Bd hml0 hP hK
  obtain ⟨rfl, hZ, hh⟩ := hP
  have hx := Bd.exec
  have hby := Bd.bytes
  have hml : c.maxLocals = 2 := hml0
  have hown : s.vm.findClass "com/example/tempora/tempora/DistanceGraph" = some m.cls := findClass_of_methodNamed Bd.named
  have hnm := (name_of_methodNamed Bd.named Bd.method).1
  have hlk : meth.locks = false := BodyLoose.notSynchronized Bd
  have X0 : Stand p l e ({ frames := 0, cells := 1, slots := 0, locals := 0 } : Room) s m #[(.ref ao), (.ref asx)] below meth c s₁ [] 0 0 := Stand.of_body Bd
  have e0 : s₁.heap = h0 := by rw [← hh, Bd.state]; rfl
  have N0 := Fr.nil n0
  show W.Gl p e below s (Q3 Z ao asx zi zd zs zm zt zl zh xpc xcc fi fs fd fl fh k h0 n0) ({ frames := 0, cells := 1, slots := 0, locals := 0 } : Room).cells ({ frames := 0, cells := 1, slots := 0, locals := 0 } : Room).slots s₁ (entryFrame m #[(.ref ao), (.ref asx)] 2)
  refine W.cast (ef_3 m ao asx) ?_
  have K0 : Keep h0 h0 [ao, zi, zs] := Keep.refl h0 [ao, zi, zs]
  obtain ⟨fm, ft, ue1, ur0, ur1, ur2, ur3, ur4, ur5, ur6, ui0, ui1, ui2, ua0, ua1, ua2, ua3, ua4, ua5, ua6⟩ := H0
  refine W.s1 (mkF m 1 #[.val (.ref ao), .val (.ref asx)] [(.ref ao)]) (fun _ kx_ => XS.aloadN X0.here hx rfl (hb hby d3_0) rfl rfl kx_) ?_
  refine W.getf X0 hx hZ hown (host := "") (Or.inl (hw _ (List.mem_of_getElem? (i := 41) rfl))) Via.refl e0 ui0 (hb hby d3_1) (pc' := 4) rfl (fun T101 X101 e101 => ?_)
  refine W.s1 (mkF m 5 #[.val (.ref ao), .val (.ref asx)] [(.ref ao), (.int xpc)]) (fun _ kx_ => XS.aloadN X101.here hx rfl (hb hby d3_4) rfl rfl kx_) ?_
  refine W.getf X101 hx hZ hown (host := "") (Or.inl (hw _ (List.mem_of_getElem? (i := 16) rfl))) Via.refl e101 ur0 (hb hby d3_5) (pc' := 8) rfl (fun T102 X102 e102 => ?_)
  refine W.alenR X102 hx hZ e102 ua0 (z := (8 : Int32)) rfl (hb hby d3_8) (pc' := 9) rfl ?_
  refine W.icmp X102 hx (hb hby d3_9) (pc' := 68) (pc'' := 12) (by decide) (by decide) rfl (fun (c9 : ¬ xpc = (8 : Int32)) => ?_) (fun (c9 : xpc = (8 : Int32)) => ?_)
  · refine W.s1 (mkF m 69 #[.val (.ref ao), .val (.ref asx)] [(.ref ao)]) (fun _ kx_ => XS.aloadN X102.here hx rfl (hb hby d3_68) rfl rfl kx_) ?_
    refine W.getf X102 hx hZ hown (host := "") (Or.inl (hw _ (List.mem_of_getElem? (i := 16) rfl))) Via.refl e102 ur0 (hb hby d3_69) (pc' := 72) rfl (fun T103 X103 e103 => ?_)
    refine W.s1 (mkF m 73 #[.val (.ref ao), .val (.ref asx)] [(.ref ao), (.ref zi)]) (fun _ kx_ => XS.aloadN X103.here hx rfl (hb hby d3_72) rfl rfl kx_) ?_
    refine W.getf X103 hx hZ hown (host := "") (Or.inl (hw _ (List.mem_of_getElem? (i := 41) rfl))) Via.refl e103 ui0 (hb hby d3_73) (pc' := 76) rfl (fun T104 X104 e104 => ?_)
    refine W.s1 (mkF m 77 #[.val (.ref ao), .val (.ref asx)] [(.int (0 : Int32)), (.int xpc), (.ref zi)]) (fun _ kx_ => XS.iconst X104.here hx rfl (hb hby d3_76) kx_) ?_
    refine W.newie X104 hx hZ (ty := .int) (aty := .int) (hw _ (List.mem_of_getElem? (i := 18) rfl)) rfl rfl e104 (hb hby d3_77) (n := 0) rfl (cap := 0) (Nat.le_refl _) (by decide) (by decide) (by decide) (ad := "[I") (by first | rfl | decide) (pc' := 79) rfl (fun T105 h105 zb X105 e105 E105 g105 A105 Ex105 => ?_)
    have ne106 : ao ≠ zb := Nat.ne_of_lt (Nat.lt_of_lt_of_le ue1.lt (Nat.le_of_eq g105.symm))
    have ne107 : zi ≠ zb := Nat.ne_of_lt (Nat.lt_of_lt_of_le ua0.lt (Nat.le_of_eq g105.symm))
    have ne108 : zd ≠ zb := Nat.ne_of_lt (Nat.lt_of_lt_of_le ua1.lt (Nat.le_of_eq g105.symm))
    have ne109 : zs ≠ zb := Nat.ne_of_lt (Nat.lt_of_lt_of_le ua2.lt (Nat.le_of_eq g105.symm))
    have ne110 : zm ≠ zb := Nat.ne_of_lt (Nat.lt_of_lt_of_le ua3.lt (Nat.le_of_eq g105.symm))
    have ne111 : zt ≠ zb := Nat.ne_of_lt (Nat.lt_of_lt_of_le ua4.lt (Nat.le_of_eq g105.symm))
    have ne112 : zl ≠ zb := Nat.ne_of_lt (Nat.lt_of_lt_of_le ua5.lt (Nat.le_of_eq g105.symm))
    have ne113 : zh ≠ zb := Nat.ne_of_lt (Nat.lt_of_lt_of_le ua6.lt (Nat.le_of_eq g105.symm))
    have ne114 : asx ≠ zb := Nat.ne_of_lt (Nat.lt_of_lt_of_le Es.lt (Nat.le_of_eq g105.symm))
    have ge105 : n0 ≤ zb := Nat.le_trans Z0 (Nat.le_of_eq g105.symm)
    have sz105 : h0.size ≤ zb := Nat.le_trans K0.1 (Nat.le_of_eq g105.symm)
    have Z105 : n0 ≤ h105.size := Nat.le_trans Z0 E105.1
    have K105 : Keep h0 h105 [ao, zi, zs] := K0.ext E105
    have f115 := ue1.ext E105
    have f116 := ur0.ext E105
    have f117 := ur1.ext E105
    have f118 := ur2.ext E105
    have f119 := ur3.ext E105
    have f120 := ur4.ext E105
    have f121 := ur5.ext E105
    have f122 := ur6.ext E105
    have f123 := ui0.ext E105
    have f124 := ui1.ext E105
    have f125 := ui2.ext E105
    have f126 := ua0.ext E105
    have f127 := ua1.ext E105
    have f128 := ua2.ext E105
    have f129 := ua3.ext E105
    have f130 := ua4.ext E105
    have f131 := ua5.ext E105
    have f132 := ua6.ext E105
    have f133 := Es.ext E105
    refine W.str X105 hx hZ e105 f126 rfl (f126.sto fun c A o => Sto.ofVA A rfl o (Ins.self Ex105)) k hk hk8 N0 hge.2.1 (hb hby d3_79) (pc' := 80) rfl (fun T134 h134 L134 X134 e134 W134 fw134 N134 => ?_)
    have Z134 : n0 ≤ h134.size := Nat.le_trans Z105 (Keep.of_wr W134).1
    have f135 := f115.wr W134
    have f136 := f116.other W134 (Or.inl ho.1)
    have f137 := f117.other W134 (Or.inl ho.1)
    have f138 := f118.other W134 (Or.inl ho.1)
    have f139 := f119.other W134 (Or.inl ho.1)
    have f140 := f120.other W134 (Or.inl ho.1)
    have f141 := f121.other W134 (Or.inl ho.1)
    have f142 := f122.other W134 (Or.inl ho.1)
    have f143 := f123.other W134 (Or.inl ho.1)
    have f144 := f124.other W134 (Or.inl ho.1)
    have f145 := f125.other W134 (Or.inl ho.1)
    have f146 := f127.other W134 (Ne.symm ho.2.2.2.2.2.2.2.1)
    have f147 := f128.other W134 (Ne.symm ho.2.2.2.2.2.2.2.2.1)
    have f148 := f129.other W134 (Ne.symm ho.2.2.2.2.2.2.2.2.2.1)
    have f149 := f130.other W134 (Ne.symm ho.2.2.2.2.2.2.2.2.2.2.1)
    have f150 := f131.other W134 (Ne.symm ho.2.2.2.2.2.2.2.2.2.2.2.1)
    have f151 := f132.other W134 (Ne.symm ho.2.2.2.2.2.2.2.2.2.2.2.2.1)
    have f152 := f133.wr W134
    have f153 := A105.other W134 (Ne.symm ne107)
    have f154 := Ex105.wr W134
    have K134 : Keep h0 h134 [ao, zi, zs] := K105.wr W134 (Or.inl (List.mem_of_getElem? (i := 1) rfl))
    refine W.s1 (mkF m 81 #[.val (.ref ao), .val (.ref asx)] [(.ref ao)]) (fun _ kx_ => XS.aloadN X134.here hx rfl (hb hby d3_80) rfl rfl kx_) ?_
    refine W.getf X134 hx hZ hown (host := "") (Or.inl (hw _ (List.mem_of_getElem? (i := 23) rfl))) Via.refl e134 f138 (hb hby d3_81) (pc' := 84) rfl (fun T155 X155 e155 => ?_)
    refine W.s1 (mkF m 85 #[.val (.ref ao), .val (.ref asx)] [(.ref ao), (.ref zs)]) (fun _ kx_ => XS.aloadN X155.here hx rfl (hb hby d3_84) rfl rfl kx_) ?_
    refine W.getf X155 hx hZ hown (host := "") (Or.inl (hw _ (List.mem_of_getElem? (i := 41) rfl))) Via.refl e155 f143 (hb hby d3_85) (pc' := 88) rfl (fun T156 X156 e156 => ?_)
    refine W.s1 (mkF m 89 #[.val (.ref ao), .val (.ref asx)] [(.ref asx), (.int xpc), (.ref zs)]) (fun _ kx_ => XS.aloadN X156.here hx rfl (hb hby d3_88) rfl rfl kx_) ?_
    refine W.str X156 hx hZ e156 f147 rfl (f147.sto fun c A o => Sto.of A o (Ins.self f152)) k hk hk8 N134 hge.2.2.2.1 (hb hby d3_89) (pc' := 90) rfl (fun T157 h157 L157 X157 e157 W157 fw157 N157 => ?_)
    have Z157 : n0 ≤ h157.size := Nat.le_trans Z134 (Keep.of_wr W157).1
    have f158 := f135.wr W157
    have f159 := f136.other W157 (Or.inl ho.2.2.1)
    have f160 := f137.other W157 (Or.inl ho.2.2.1)
    have f161 := f138.other W157 (Or.inl ho.2.2.1)
    have f162 := f139.other W157 (Or.inl ho.2.2.1)
    have f163 := f140.other W157 (Or.inl ho.2.2.1)
    have f164 := f141.other W157 (Or.inl ho.2.2.1)
    have f165 := f142.other W157 (Or.inl ho.2.2.1)
    have f166 := f143.other W157 (Or.inl ho.2.2.1)
    have f167 := f144.other W157 (Or.inl ho.2.2.1)
    have f168 := f145.other W157 (Or.inl ho.2.2.1)
    have f169 := fw134.other W157 ho.2.2.2.2.2.2.2.2.1
    have f170 := f146.other W157 ho.2.2.2.2.2.2.2.2.2.2.2.2.2.1
    have f171 := f148.other W157 (Ne.symm ho.2.2.2.2.2.2.2.2.2.2.2.2.2.2.2.2.2.2.1)
    have f172 := f149.other W157 (Ne.symm ho.2.2.2.2.2.2.2.2.2.2.2.2.2.2.2.2.2.2.2.1)
    have f173 := f150.other W157 (Ne.symm ho.2.2.2.2.2.2.2.2.2.2.2.2.2.2.2.2.2.2.2.2.1)
    have f174 := f151.other W157 (Ne.symm ho.2.2.2.2.2.2.2.2.2.2.2.2.2.2.2.2.2.2.2.2.2.1)
    have f175 := f152.wr W157
    have f176 := f153.other W157 (Ne.symm ne109)
    have f177 := f154.wr W157
    have K157 : Keep h0 h157 [ao, zi, zs] := K134.wr W157 (Or.inl (List.mem_of_getElem? (i := 2) rfl))
    refine W.s1 (mkF m 91 #[.val (.ref ao), .val (.ref asx)] [(.ref ao)]) (fun _ kx_ => XS.aloadN X157.here hx rfl (hb hby d3_90) rfl rfl kx_) ?_
    refine W.s1 (mkF m 92 #[.val (.ref ao), .val (.ref asx)] [(.ref ao), (.ref ao)]) (fun _ kx_ => XS.dup X157.here hx rfl (hb hby d3_91) rfl rfl kx_) ?_
    refine W.getf X157 hx hZ hown (host := "") (Or.inl (hw _ (List.mem_of_getElem? (i := 41) rfl))) Via.refl e157 f166 (hb hby d3_92) (pc' := 95) rfl (fun T178 X178 e178 => ?_)
    refine W.s1 (mkF m 96 #[.val (.ref ao), .val (.ref asx)] [(.int xpc), (.ref ao), (.int xpc)]) (fun _ kx_ => XS.dupX1 X178.here hx rfl (hb hby d3_95) rfl rfl rfl kx_) ?_
    refine W.s1 (mkF m 97 #[.val (.ref ao), .val (.ref asx)] [(.int (1 : Int32)), (.int xpc), (.ref ao), (.int xpc)]) (fun _ kx_ => XS.iconst X178.here hx rfl (hb hby d3_96) kx_) ?_
    refine W.s1 (mkF m 98 #[.val (.ref ao), .val (.ref asx)] [(.int (xpc + (1 : Int32))), (.ref ao), (.int xpc)]) (fun _ kx_ => XS.iadd X178.here hx rfl (hb hby d3_97) rfl kx_) ?_
    refine W.putf X178 hx hZ hown (host := "") (Or.inl (hw _ (List.mem_of_getElem? (i := 41) rfl))) Via.refl e178 f166 f158 (Or.inl (hw _ (List.mem_of_getElem? (i := 42) rfl))) (hw _ (List.mem_of_getElem? (i := 6) rfl)) (ty := .int) (by decide) rfl rfl N157 hge.1 (hb hby d3_98) (pc' := 101) rfl (fun T179 h179 L179 X179 e179 W179 fw179 N179 => ?_)
    have Z179 : n0 ≤ h179.size := Nat.le_trans Z157 (Keep.of_wr W179).1
    have f180 := f158.wr W179
    have f181 := f159.other W179 (Or.inr (slot_ne (Or.inl (hw _ (List.mem_of_getElem? (i := 17) rfl))) (Or.inl (hw _ (List.mem_of_getElem? (i := 42) rfl))) (by decide) (t := (.array (.array .int))) (t' := .int) (by decide) (by decide)))
    have f182 := f160.other W179 (Or.inr (slot_ne (Or.inl (hw _ (List.mem_of_getElem? (i := 20) rfl))) (Or.inl (hw _ (List.mem_of_getElem? (i := 42) rfl))) (by decide) (t := (.array .int)) (t' := .int) (by decide) (by decide)))
    have f183 := f161.other W179 (Or.inr (slot_ne (Or.inl (hw _ (List.mem_of_getElem? (i := 24) rfl))) (Or.inl (hw _ (List.mem_of_getElem? (i := 42) rfl))) (by decide) (t := (.array (.object "com/example/tempora/tempora/PointStatus"))) (t' := .int) (by decide) (by decide)))
    have f184 := f162.other W179 (Or.inr (slot_ne (Or.inl (hw _ (List.mem_of_getElem? (i := 28) rfl))) (Or.inl (hw _ (List.mem_of_getElem? (i := 42) rfl))) (by decide) (t := (.array .int)) (t' := .int) (by decide) (by decide)))
    have f185 := f163.other W179 (Or.inr (slot_ne (Or.inl (hw _ (List.mem_of_getElem? (i := 30) rfl))) (Or.inl (hw _ (List.mem_of_getElem? (i := 42) rfl))) (by decide) (t := (.array .int)) (t' := .int) (by decide) (by decide)))
    have f186 := f164.other W179 (Or.inr (slot_ne (Or.inl (hw _ (List.mem_of_getElem? (i := 33) rfl))) (Or.inl (hw _ (List.mem_of_getElem? (i := 42) rfl))) (by decide) (t := (.array .long)) (t' := .int) (by decide) (by decide)))
    have f187 := f165.other W179 (Or.inr (slot_ne (Or.inl (hw _ (List.mem_of_getElem? (i := 35) rfl))) (Or.inl (hw _ (List.mem_of_getElem? (i := 42) rfl))) (by decide) (t := (.array .long)) (t' := .int) (by decide) (by decide)))
    have f188 := f167.other W179 (Or.inr (slot_ne (Or.inl (hw _ (List.mem_of_getElem? (i := 51) rfl))) (Or.inl (hw _ (List.mem_of_getElem? (i := 42) rfl))) (by decide) (t := .int) (t' := .int) (by decide) (by decide)))
    have f189 := f168.other W179 (Or.inr (slot_ne (Or.inl (hw _ (List.mem_of_getElem? (i := 53) rfl))) (Or.inl (hw _ (List.mem_of_getElem? (i := 42) rfl))) (by decide) (t := .int) (t' := .int) (by decide) (by decide)))
    have f190 := f169.other W179 (Ne.symm ho.1)
    have f191 := f170.other W179 (Ne.symm ho.2.1)
    have f192 := fw157.other W179 (Ne.symm ho.2.2.1)
    have f193 := f171.other W179 (Ne.symm ho.2.2.2.1)
    have f194 := f172.other W179 (Ne.symm ho.2.2.2.2.1)
    have f195 := f173.other W179 (Ne.symm ho.2.2.2.2.2.1)
    have f196 := f174.other W179 (Ne.symm ho.2.2.2.2.2.2.1)
    have f197 := f175.wr W179
    have f198 := f176.other W179 (Ne.symm ne106)
    have f199 := f177.wr W179
    have K179 : Keep h0 h179 [ao, zi, zs] := K157.wr W179 (Or.inl (List.mem_of_getElem? (i := 0) rfl))
    exact W.retI X179 hx hlk Bd.returns (hb hby d3_101) (by show Q3 Z ao asx zi zd zs zm zt zl zh xpc xcc fi fs fd fl fh k h0 n0 _ T179.heap _; rw [e179]; exact ⟨zb, rfl, N179, K179, sz105, f198, ⟨_, _, f180, f181, f182, f183, f184, f185, f186, f187, fw179, f188, f189, f190, f191, f192, f193, f194, f195, f196⟩⟩) (by decide) (by decide)
  · exact absurd c9 (own_8 hk hk8)
theorem ef_5g (m : MethodId) (x0 : Addr) (x1 : Int32) (x2 : Int32) : entryFrame m #[(.ref x0), (.int x1), (.int x2)] 3 = mkF m 0 #[.val (.ref x0), .val (.int x1), .val (.int x2)] [] := by first | (simp [entryFrame, mkF, argsToLocals, Value.category]; done) | rfl
theorem d5_0 : decode prog_5_method_18_code 0 = .ok (.aload_n 0, 1) := by decide +kernel
theorem d5_1 : decode prog_5_method_18_code 1 = .ok (.getfield 15, 3) := by decide +kernel
theorem d5_4 : decode prog_5_method_18_code 4 = .ok (.iload_n 1, 1) := by decide +kernel
theorem d5_5 : decode prog_5_method_18_code 5 = .ok (.iaload, 1) := by decide +kernel
theorem d5_6 : decode prog_5_method_18_code 6 = .ok (.aload_n 0, 1) := by decide +kernel
theorem d5_7 : decode prog_5_method_18_code 7 = .ok (.getfield 11, 3) := by decide +kernel
theorem d5_10 : decode prog_5_method_18_code 10 = .ok (.iload_n 1, 1) := by decide +kernel
theorem d5_11 : decode prog_5_method_18_code 11 = .ok (.aaload, 1) := by decide +kernel
theorem d5_12 : decode prog_5_method_18_code 12 = .ok (.arraylength, 1) := by decide +kernel
theorem d5_13 : decode prog_5_method_18_code 13 = .ok (.if_icmp .ne 30, 3) := by decide +kernel
theorem d5_16 : decode prog_5_method_18_code 16 = .ok (.aload_n 0, 1) := by decide +kernel
theorem d5_17 : decode prog_5_method_18_code 17 = .ok (.getfield 11, 3) := by decide +kernel
theorem d5_20 : decode prog_5_method_18_code 20 = .ok (.iload_n 1, 1) := by decide +kernel
theorem d5_21 : decode prog_5_method_18_code 21 = .ok (.aload_n 0, 1) := by decide +kernel
theorem d5_22 : decode prog_5_method_18_code 22 = .ok (.getfield 11, 3) := by decide +kernel
theorem d5_25 : decode prog_5_method_18_code 25 = .ok (.iload_n 1, 1) := by decide +kernel
theorem d5_26 : decode prog_5_method_18_code 26 = .ok (.aaload, 1) := by decide +kernel
theorem d5_27 : decode prog_5_method_18_code 27 = .ok (.iconst 2, 1) := by decide +kernel
theorem d5_28 : decode prog_5_method_18_code 28 = .ok (.iconst 2, 1) := by decide +kernel
theorem d5_29 : decode prog_5_method_18_code 29 = .ok (.aload_n 0, 1) := by decide +kernel
theorem d5_30 : decode prog_5_method_18_code 30 = .ok (.getfield 15, 3) := by decide +kernel
theorem d5_33 : decode prog_5_method_18_code 33 = .ok (.iload_n 1, 1) := by decide +kernel
theorem d5_34 : decode prog_5_method_18_code 34 = .ok (.iaload, 1) := by decide +kernel
theorem d5_35 : decode prog_5_method_18_code 35 = .ok (.imul, 1) := by decide +kernel
theorem d5_36 : decode prog_5_method_18_code 36 = .ok (.invokestatic 92, 3) := by decide +kernel
theorem d5_39 : decode prog_5_method_18_code 39 = .ok (.invokestatic 55, 3) := by decide +kernel
theorem pd_1 : parseMethodDescriptor "([II)[I" = some ⟨[(.array .int), .int], some (.array .int)⟩ := by decide +kernel
theorem d5_42 : decode prog_5_method_18_code 42 = .ok (.aastore, 1) := by decide +kernel
theorem d5_43 : decode prog_5_method_18_code 43 = .ok (.aload_n 0, 1) := by decide +kernel
theorem d5_44 : decode prog_5_method_18_code 44 = .ok (.getfield 11, 3) := by decide +kernel
theorem d5_47 : decode prog_5_method_18_code 47 = .ok (.iload_n 1, 1) := by decide +kernel
theorem d5_48 : decode prog_5_method_18_code 48 = .ok (.aaload, 1) := by decide +kernel
theorem d5_49 : decode prog_5_method_18_code 49 = .ok (.aload_n 0, 1) := by decide +kernel
theorem d5_50 : decode prog_5_method_18_code 50 = .ok (.getfield 15, 3) := by decide +kernel
theorem d5_53 : decode prog_5_method_18_code 53 = .ok (.iload_n 1, 1) := by decide +kernel
theorem d5_54 : decode prog_5_method_18_code 54 = .ok (.dup2, 1) := by decide +kernel
theorem d5_55 : decode prog_5_method_18_code 55 = .ok (.iaload, 1) := by decide +kernel
theorem d5_56 : decode prog_5_method_18_code 56 = .ok (.dup_x2, 1) := by decide +kernel
theorem d5_57 : decode prog_5_method_18_code 57 = .ok (.iconst 1, 1) := by decide +kernel
theorem d5_58 : decode prog_5_method_18_code 58 = .ok (.iadd, 1) := by decide +kernel
theorem d5_59 : decode prog_5_method_18_code 59 = .ok (.iastore, 1) := by decide +kernel
theorem d5_60 : decode prog_5_method_18_code 60 = .ok (.iload_n 2, 1) := by decide +kernel
theorem d5_61 : decode prog_5_method_18_code 61 = .ok (.iastore, 1) := by decide +kernel
theorem d5_62 : decode prog_5_method_18_code 62 = .ok (.return_, 1) := by decide +kernel
def Q5g (Z : State) (ao : Addr) (xp : Int32) (xc : Int32) (zi : Addr) (zd : Addr) (zs : Addr) (zm : Addr) (zt : Addr) (zl : Addr) (zh : Addr) (xpc : Int32) (xcc : Int32) (fi : Nat → Value) (fs : Nat → Value) (fd : Nat → Int32) (fl : Nat → Int64) (fh : Nat → Int64) (k : Nat) (zb : Addr) (fb : Nat → Int32) (h0 : Heap) (n0 : Nat) (v : Option Value) (h : Heap) (L : List Loc) : Prop := ∃ (zc : Addr) (f2 : Nat → Int32), v = none ∧ Fr n0 L ∧ Keep h0 h [zi, zd] ∧ h0.size ≤ zc ∧ W.AI Z h zc .int 2 f2 ∧ own_DG Z h ao zi zd zs zm zt zl zh xpc xcc (W.up fi k (.ref zc)) fs (W.up fd k 1) fl fh
set_option maxRecDepth 65536 in
set_option maxHeartbeats 40000000 in
theorem rm5g (l : Launch) (Z : State) (a0 : Array Value) (hw : ∀ d ∈ tables_1, d.before a0 Z = true) (ws : List Jvm.Cond) (ao : Addr) (xp : Int32) (xc : Int32) (zi : Addr) (zd : Addr) (zs : Addr) (zm : Addr) (zt : Addr) (zl : Addr) (zh : Addr) (xpc : Int32) (xcc : Int32) (fi : Nat → Value) (fs : Nat → Value) (fd : Nat → Int32) (fl : Nat → Int64) (fh : Nat → Int64) (k : Nat) (zb : Addr) (fb : Nat → Int32) (h0 : Heap) (n0 : Nat) (Z0 : n0 ≤ h0.size) (H0 : own_DG Z h0 ao zi zd zs zm zt zl zh xpc xcc fi fs fd fl fh) (ho : own_ord ao zi zd zs zm zt zl zh) (hge : own_ge n0 ao zi zd zs zm zt zl zh) (hk : xp.toInt = k) (hk8 : k < 8) (hfd : fd k = 0) (hfi : fi k = .ref zb) (Ab : W.AI Z h0 zb .int 0 fb) :
    MetFree l (⟨"com/example/tempora/tempora/DistanceGraph", "attach", "(II)V"⟩ : MethodName) (head1 (Jvm.Cond.code (⟨"com/example/tempora/tempora/DistanceGraph", "attach", "(II)V"⟩ : MethodName) prog_5_method_18_code 3 none :: ws) ({ frames := 2, cells := 1, slots := 2, locals := 36 } : Room)) (fun a U => a = #[(.ref ao), (.int xp), (.int xc)] ∧ Z.Warmed39 U.vm ∧ U.heap = h0) (fun _ _ _ _ _ => True) (fun _ U o U' => ∃ v L, o = .returned v ∧ Q5g Z ao xp xc zi zd zs zm zt zl zh xpc xcc fi fs fd fl fh k zb fb h0 n0 v U'.heap L ∧ FrameEnd U o U' L ({ frames := 2, cells := 1, slots := 2, locals := 36 } : Room).cells ({ frames := 2, cells := 1, slots := 2, locals := 36 } : Room).slots) := by
  refine MetFree.of_bodySF (plainFor_of_name pn_0) hisR ?_
  intro p e s m args below meth c s₁ Bd hml0 hP hK
  obtain ⟨rfl, hZ, hh⟩ := hP
  have hx := Bd.exec
  have hby := Bd.bytes
  have hml : c.maxLocals = 3 := hml0
  have hown : s.vm.findClass "com/example/tempora/tempora/DistanceGraph" = some m.cls := findClass_of_methodNamed Bd.named
  have hnm := (name_of_methodNamed Bd.named Bd.method).1
  have hlk : meth.locks = false := BodyLoose.notSynchronized Bd
  have X0 : Stand p l e ({ frames := 2, cells := 1, slots := 2, locals := 36 } : Room) s m #[(.ref ao), (.int xp), (.int xc)] below meth c s₁ [] 0 0 := Stand.of_body Bd
  have e0 : s₁.heap = h0 := by rw [← hh, Bd.state]; rfl
  have N0 := Fr.nil n0
  show W.Gl p e below s (Q5g Z ao xp xc zi zd zs zm zt zl zh xpc xcc fi fs fd fl fh k zb fb h0 n0) ({ frames := 2, cells := 1, slots := 2, locals := 36 } : Room).cells ({ frames := 2, cells := 1, slots := 2, locals := 36 } : Room).slots s₁ (entryFrame m #[(.ref ao), (.int xp), (.int xc)] 3)
  refine W.cast (ef_5g m ao xp xc) ?_
  have K0 : Keep h0 h0 [zi, zd] := Keep.refl h0 [zi, zd]
  obtain ⟨fm, ft, ue1, ur0, ur1, ur2, ur3, ur4, ur5, ur6, ui0, ui1, ui2, ua0, ua1, ua2, ua3, ua4, ua5, ua6⟩ := H0
  refine W.s1 (mkF m 1 #[.val (.ref ao), .val (.int xp), .val (.int xc)] [(.ref ao)]) (fun _ kx_ => XS.aloadN X0.here hx rfl (hb hby d5_0) rfl rfl kx_) ?_
  refine W.getf X0 hx hZ hown (host := "") (Or.inl (hw _ (List.mem_of_getElem? (i := 19) rfl))) Via.refl e0 ur1 (hb hby d5_1) (pc' := 4) rfl (fun T101 X101 e101 => ?_)
  refine W.s1 (mkF m 5 #[.val (.ref ao), .val (.int xp), .val (.int xc)] [(.int xp), (.ref zd)]) (fun _ kx_ => XS.iloadN X101.here hx rfl (hb hby d5_4) rfl kx_) ?_
  refine W.ldi X101 hx hZ e101 ua1 k hk hk8 (hb hby d5_5) (pc' := 6) rfl ?_
  rw [hfd]
  refine W.s1 (mkF m 7 #[.val (.ref ao), .val (.int xp), .val (.int xc)] [(.ref ao), (.int (0 : Int32))]) (fun _ kx_ => XS.aloadN X101.here hx rfl (hb hby d5_6) rfl rfl kx_) ?_
  refine W.getf X101 hx hZ hown (host := "") (Or.inl (hw _ (List.mem_of_getElem? (i := 16) rfl))) Via.refl e101 ur0 (hb hby d5_7) (pc' := 10) rfl (fun T102 X102 e102 => ?_)
  refine W.s1 (mkF m 11 #[.val (.ref ao), .val (.int xp), .val (.int xc)] [(.int xp), (.ref zi), (.int (0 : Int32))]) (fun _ kx_ => XS.iloadN X102.here hx rfl (hb hby d5_10) rfl kx_) ?_
  refine W.ldr X102 hx hZ e102 ua0 rfl k hk hk8 (hb hby d5_11) (pc' := 12) rfl ?_
  rw [hfi]
  refine W.alen X102 hx hZ e102 Ab (z := (0 : Int32)) rfl (hb hby d5_12) (pc' := 13) rfl ?_
  refine W.icmp X102 hx (hb hby d5_13) (pc' := 43) (pc'' := 16) (by decide) (by decide) rfl (fun (c13 : ¬ (0 : Int32) = (0 : Int32)) => ?_) (fun (c13 : (0 : Int32) = (0 : Int32)) => ?_)
  · exact absurd c13 (by decide)
  · refine W.s1 (mkF m 17 #[.val (.ref ao), .val (.int xp), .val (.int xc)] [(.ref ao)]) (fun _ kx_ => XS.aloadN X102.here hx rfl (hb hby d5_16) rfl rfl kx_) ?_
    refine W.getf X102 hx hZ hown (host := "") (Or.inl (hw _ (List.mem_of_getElem? (i := 16) rfl))) Via.refl e102 ur0 (hb hby d5_17) (pc' := 20) rfl (fun T103 X103 e103 => ?_)
    refine W.s1 (mkF m 21 #[.val (.ref ao), .val (.int xp), .val (.int xc)] [(.int xp), (.ref zi)]) (fun _ kx_ => XS.iloadN X103.here hx rfl (hb hby d5_20) rfl kx_) ?_
    refine W.s1 (mkF m 22 #[.val (.ref ao), .val (.int xp), .val (.int xc)] [(.ref ao), (.int xp), (.ref zi)]) (fun _ kx_ => XS.aloadN X103.here hx rfl (hb hby d5_21) rfl rfl kx_) ?_
    refine W.getf X103 hx hZ hown (host := "") (Or.inl (hw _ (List.mem_of_getElem? (i := 16) rfl))) Via.refl e103 ur0 (hb hby d5_22) (pc' := 25) rfl (fun T104 X104 e104 => ?_)
    refine W.s1 (mkF m 26 #[.val (.ref ao), .val (.int xp), .val (.int xc)] [(.int xp), (.ref zi), (.int xp), (.ref zi)]) (fun _ kx_ => XS.iloadN X104.here hx rfl (hb hby d5_25) rfl kx_) ?_
    refine W.ldr X104 hx hZ e104 ua0 rfl k hk hk8 (hb hby d5_26) (pc' := 27) rfl ?_
    rw [hfi]
    refine W.s1 (mkF m 28 #[.val (.ref ao), .val (.int xp), .val (.int xc)] [(.int (2 : Int32)), (.ref zb), (.int xp), (.ref zi)]) (fun _ kx_ => XS.iconst X104.here hx rfl (hb hby d5_27) kx_) ?_
    refine W.s1 (mkF m 29 #[.val (.ref ao), .val (.int xp), .val (.int xc)] [(.int (2 : Int32)), (.int (2 : Int32)), (.ref zb), (.int xp), (.ref zi)]) (fun _ kx_ => XS.iconst X104.here hx rfl (hb hby d5_28) kx_) ?_
    refine W.s1 (mkF m 30 #[.val (.ref ao), .val (.int xp), .val (.int xc)] [(.ref ao), (.int (2 : Int32)), (.int (2 : Int32)), (.ref zb), (.int xp), (.ref zi)]) (fun _ kx_ => XS.aloadN X104.here hx rfl (hb hby d5_29) rfl rfl kx_) ?_
    refine W.getf X104 hx hZ hown (host := "") (Or.inl (hw _ (List.mem_of_getElem? (i := 19) rfl))) Via.refl e104 ur1 (hb hby d5_30) (pc' := 33) rfl (fun T105 X105 e105 => ?_)
    refine W.s1 (mkF m 34 #[.val (.ref ao), .val (.int xp), .val (.int xc)] [(.int xp), (.ref zd), (.int (2 : Int32)), (.int (2 : Int32)), (.ref zb), (.int xp), (.ref zi)]) (fun _ kx_ => XS.iloadN X105.here hx rfl (hb hby d5_33) rfl kx_) ?_
    refine W.ldi X105 hx hZ e105 ua1 k hk hk8 (hb hby d5_34) (pc' := 35) rfl ?_
    rw [hfd]
    refine W.s1 (mkF m 36 #[.val (.ref ao), .val (.int xp), .val (.int xc)] [(.int (0 : Int32)), (.int (2 : Int32)), (.ref zb), (.int xp), (.ref zi)]) (fun _ kx_ => XS.imul X105.here hx rfl (hb hby d5_35) rfl kx_) ?_
    obtain ⟨_, _, ⟨T106, L106, k106, n106⟩, -, X106, ⟨Lc106, hQ106, l106, y106, z106⟩, st106⟩ := Jvm.LawKit.callS X105 hx (y := (⟨"java/lang/Math", "max", "(II)I"⟩ : MethodName)) hown (mvT hZ (hw _ (List.mem_of_getElem? (i := 58) rfl))) (mvT hZ (hw _ (List.mem_of_getElem? (i := 59) rfl))) (mvT hZ (hw _ (List.mem_of_getElem? (i := 60) rfl))) (mvT hZ (hw _ (List.mem_of_getElem? (i := 61) rfl))) (by decide) (backOf (W := 3) (rm6 l Z a0 hw [] (2 : Int32) (0 : Int32) h0 n0 Z0 ) hZ (hw _ (List.mem_of_getElem? (i := 61) rfl)) (hw _ (List.mem_of_getElem? (i := 60) rfl)) (by decide) (by decide)) (g := (mkF m 36 #[.val (.ref ao), .val (.int xp), .val (.int xc)] [(.int (0 : Int32)), (.int (2 : Int32)), (.ref zb), (.int xp), (.ref zi)])) rfl (by rw [hml]; rfl) (argsL := [(.int (2 : Int32)), (.int (0 : Int32))]) (rest := [(.ref zb), (.int xp), (.ref zi)]) (lenOf pd_0 rfl) rfl (by show 2 * 0 + _ ≤ _; exact Nat.le_of_eq rfl) (hb hby d5_36) (fun _ _ => ⟨rfl, e105, (by decide : 0 + 0 ≤ _), (by decide : 0 + 0 ≤ _)⟩)
    dsimp only [Pt.U, Pt.locs, Pt.cells, Pt.slots] at X106 l106 y106 z106 st106 hQ106
    subst l106 y106 z106
    obtain ⟨xr, rfl, Nq106, eq106, hxr⟩ := hQ106
    have N106 := Fr.app N0 Nq106
    obtain rfl : (2 : Int32) = xr := by rcases hxr with ⟨q, _⟩ | ⟨_, q⟩; exact q.symm; exact absurd q (by decide)
    refine W.s2 (mkF m 39 #[.val (.ref ao), .val (.int xp), .val (.int xc)] [(.int (2 : Int32)), (.ref zb), (.int xp), (.ref zi)]) st106 ?_
    have Zo := Z0
    obtain ⟨_, _, ⟨T107, L107, k107, n107⟩, -, X107, ⟨Lc107, hQ107, l107, y107, z107⟩, st107⟩ := Jvm.LawKit.callS X106 hx (y := (⟨"java/util/Arrays", "copyOf", "([II)[I"⟩ : MethodName)) hown (mvT hZ (hw _ (List.mem_of_getElem? (i := 62) rfl))) (mvT hZ (hw _ (List.mem_of_getElem? (i := 63) rfl))) (mvT hZ (hw _ (List.mem_of_getElem? (i := 64) rfl))) (mvT hZ (hw _ (List.mem_of_getElem? (i := 65) rfl))) (by decide) (backOf (W := 2) (rm7 l Z a0 hw [] zb (2 : Int32) 0 2 (0 : Int32) fb h0 n0 Z0 rfl rfl (by decide) Ab (by decide)) hZ (hw _ (List.mem_of_getElem? (i := 65) rfl)) (hw _ (List.mem_of_getElem? (i := 64) rfl)) (by decide) (by decide)) (g := (mkF m 39 #[.val (.ref ao), .val (.int xp), .val (.int xc)] [(.int (2 : Int32)), (.ref zb), (.int xp), (.ref zi)])) rfl (by rw [hml]; rfl) (argsL := [(.ref zb), (.int (2 : Int32))]) (rest := [(.int xp), (.ref zi)]) (lenOf pd_1 rfl) rfl (by show 2 * 0 + _ ≤ _; exact Nat.le_of_eq rfl) (hb hby d5_39) (fun _ _ => ⟨rfl, eq106, (by decide : 0 + 1 ≤ _), (by decide : 0 + 2 ≤ _)⟩)
    dsimp only [Pt.U, Pt.locs, Pt.cells, Pt.slots] at X107 l107 y107 z107 st107 hQ107
    subst l107 y107 z107
    obtain ⟨h107, e107⟩ : ∃ z, T107.heap = z := ⟨_, rfl⟩
    rw [e107] at hQ107
    obtain ⟨zc, fc2, rfl, Nq107, Kq107, hzc, hzc2, A107, Ez107⟩ := hQ107
    have N107 := Fr.app N106 Nq107
    have Z107 : n0 ≤ h107.size := Nat.le_trans Z0 Kq107.1
    have K107 : Keep h0 h107 [zi, zd] := K0.trans Kq107 all0
    have f108 := ue1.keep Kq107
    have f109 := ur0.keep Kq107 nin0
    have f110 := ur1.keep Kq107 nin0
    have f111 := ur2.keep Kq107 nin0
    have f112 := ur3.keep Kq107 nin0
    have f113 := ur4.keep Kq107 nin0
    have f114 := ur5.keep Kq107 nin0
    have f115 := ur6.keep Kq107 nin0
    have f116 := ui0.keep Kq107 nin0
    have f117 := ui1.keep Kq107 nin0
    have f118 := ui2.keep Kq107 nin0
    have f119 := ua0.keep Kq107 nin0
    have f120 := ua1.keep Kq107 nin0
    have f121 := ua2.keep Kq107 nin0
    have f122 := ua3.keep Kq107 nin0
    have f123 := ua4.keep Kq107 nin0
    have f124 := ua5.keep Kq107 nin0
    have f125 := ua6.keep Kq107 nin0
    have f126 := Ab.keep Kq107 nin0
    have ne127 : ao ≠ zc := Nat.ne_of_lt (Nat.lt_of_lt_of_le ue1.lt hzc)
    have ne128 : zi ≠ zc := Nat.ne_of_lt (Nat.lt_of_lt_of_le ua0.lt hzc)
    have ne129 : zd ≠ zc := Nat.ne_of_lt (Nat.lt_of_lt_of_le ua1.lt hzc)
    have ne130 : zs ≠ zc := Nat.ne_of_lt (Nat.lt_of_lt_of_le ua2.lt hzc)
    have ne131 : zm ≠ zc := Nat.ne_of_lt (Nat.lt_of_lt_of_le ua3.lt hzc)
    have ne132 : zt ≠ zc := Nat.ne_of_lt (Nat.lt_of_lt_of_le ua4.lt hzc)
    have ne133 : zl ≠ zc := Nat.ne_of_lt (Nat.lt_of_lt_of_le ua5.lt hzc)
    have ne134 : zh ≠ zc := Nat.ne_of_lt (Nat.lt_of_lt_of_le ua6.lt hzc)
    have ne135 : zb ≠ zc := Nat.ne_of_lt (Nat.lt_of_lt_of_le Ab.lt hzc)
    have ge136 : n0 ≤ zc := Nat.le_trans Zo hzc
    have szc : h0.size ≤ zc := Nat.le_trans K0.1 hzc
    refine W.s2 (mkF m 42 #[.val (.ref ao), .val (.int xp), .val (.int xc)] [(.ref zc), (.int xp), (.ref zi)]) st107 ?_
    refine W.str X107 hx hZ e107 f119 rfl (f119.sto fun c A o => Sto.ofVA A rfl o (Ins.self Ez107)) k hk hk8 N107 hge.2.1 (hb hby d5_42) (pc' := 43) rfl (fun T137 h137 L137 X137 e137 W137 fw137 N137 => ?_)
    have Z137 : n0 ≤ h137.size := Nat.le_trans Z107 (Keep.of_wr W137).1
    have f138 := f108.wr W137
    have f139 := f109.other W137 (Or.inl ho.1)
    have f140 := f110.other W137 (Or.inl ho.1)
    have f141 := f111.other W137 (Or.inl ho.1)
    have f142 := f112.other W137 (Or.inl ho.1)
    have f143 := f113.other W137 (Or.inl ho.1)
    have f144 := f114.other W137 (Or.inl ho.1)
    have f145 := f115.other W137 (Or.inl ho.1)
    have f146 := f116.other W137 (Or.inl ho.1)
    have f147 := f117.other W137 (Or.inl ho.1)
    have f148 := f118.other W137 (Or.inl ho.1)
    have f149 := f120.other W137 (Ne.symm ho.2.2.2.2.2.2.2.1)
    have f150 := f121.other W137 (Ne.symm ho.2.2.2.2.2.2.2.2.1)
    have f151 := f122.other W137 (Ne.symm ho.2.2.2.2.2.2.2.2.2.1)
    have f152 := f123.other W137 (Ne.symm ho.2.2.2.2.2.2.2.2.2.2.1)
    have f153 := f124.other W137 (Ne.symm ho.2.2.2.2.2.2.2.2.2.2.2.1)
    have f154 := f125.other W137 (Ne.symm ho.2.2.2.2.2.2.2.2.2.2.2.2.1)
    have f155 := A107.other W137 (Ne.symm ne128)
    have f156 := Ez107.wr W137
    have K137 : Keep h0 h137 [zi, zd] := K107.wr W137 (Or.inl (List.mem_of_getElem? (i := 0) rfl))
    refine W.s1 (mkF m 44 #[.val (.ref ao), .val (.int xp), .val (.int xc)] [(.ref ao)]) (fun _ kx_ => XS.aloadN X137.here hx rfl (hb hby d5_43) rfl rfl kx_) ?_
    refine W.getf X137 hx hZ hown (host := "") (Or.inl (hw _ (List.mem_of_getElem? (i := 16) rfl))) Via.refl e137 f139 (hb hby d5_44) (pc' := 47) rfl (fun T157 X157 e157 => ?_)
    refine W.s1 (mkF m 48 #[.val (.ref ao), .val (.int xp), .val (.int xc)] [(.int xp), (.ref zi)]) (fun _ kx_ => XS.iloadN X157.here hx rfl (hb hby d5_47) rfl kx_) ?_
    refine W.ldr X157 hx hZ e157 fw137 rfl k hk hk8 (hb hby d5_48) (pc' := 49) rfl ?_
    rw [W.up_same]
    refine W.s1 (mkF m 50 #[.val (.ref ao), .val (.int xp), .val (.int xc)] [(.ref ao), (.ref zc)]) (fun _ kx_ => XS.aloadN X157.here hx rfl (hb hby d5_49) rfl rfl kx_) ?_
    refine W.getf X157 hx hZ hown (host := "") (Or.inl (hw _ (List.mem_of_getElem? (i := 19) rfl))) Via.refl e157 f140 (hb hby d5_50) (pc' := 53) rfl (fun T158 X158 e158 => ?_)
    refine W.s1 (mkF m 54 #[.val (.ref ao), .val (.int xp), .val (.int xc)] [(.int xp), (.ref zd), (.ref zc)]) (fun _ kx_ => XS.iloadN X158.here hx rfl (hb hby d5_53) rfl kx_) ?_
    refine W.s1 (mkF m 55 #[.val (.ref ao), .val (.int xp), .val (.int xc)] [(.int xp), (.ref zd), (.int xp), (.ref zd), (.ref zc)]) (fun _ kx_ => XT.dup2 X158.here hx rfl (hb hby d5_54) rfl rfl rfl kx_) ?_
    refine W.ldi X158 hx hZ e158 f149 k hk hk8 (hb hby d5_55) (pc' := 56) rfl ?_
    rw [hfd]
    refine W.s1 (mkF m 57 #[.val (.ref ao), .val (.int xp), .val (.int xc)] [(.int (0 : Int32)), (.int xp), (.ref zd), (.int (0 : Int32)), (.ref zc)]) (fun _ kx_ => W.dupX2 X158.here hx rfl (hb hby d5_56) rfl rfl rfl rfl kx_) ?_
    refine W.s1 (mkF m 58 #[.val (.ref ao), .val (.int xp), .val (.int xc)] [(.int (1 : Int32)), (.int (0 : Int32)), (.int xp), (.ref zd), (.int (0 : Int32)), (.ref zc)]) (fun _ kx_ => XS.iconst X158.here hx rfl (hb hby d5_57) kx_) ?_
    refine W.s1 (mkF m 59 #[.val (.ref ao), .val (.int xp), .val (.int xc)] [(.int (1 : Int32)), (.int xp), (.ref zd), (.int (0 : Int32)), (.ref zc)]) (fun _ kx_ => XS.iadd X158.here hx rfl (hb hby d5_58) rfl kx_) ?_
    refine W.sti X158 hx hZ e158 f149 k hk hk8 N137 hge.2.2.1 (hb hby d5_59) (pc' := 60) rfl (fun T159 h159 L159 X159 e159 W159 fw159 N159 => ?_)
    have Z159 : n0 ≤ h159.size := Nat.le_trans Z137 (Keep.of_wr W159).1
    have f160 := f138.wr W159
    have f161 := f139.other W159 (Or.inl ho.2.1)
    have f162 := f140.other W159 (Or.inl ho.2.1)
    have f163 := f141.other W159 (Or.inl ho.2.1)
    have f164 := f142.other W159 (Or.inl ho.2.1)
    have f165 := f143.other W159 (Or.inl ho.2.1)
    have f166 := f144.other W159 (Or.inl ho.2.1)
    have f167 := f145.other W159 (Or.inl ho.2.1)
    have f168 := f146.other W159 (Or.inl ho.2.1)
    have f169 := f147.other W159 (Or.inl ho.2.1)
    have f170 := f148.other W159 (Or.inl ho.2.1)
    have f171 := fw137.other W159 ho.2.2.2.2.2.2.2.1
    have f172 := f150.other W159 (Ne.symm ho.2.2.2.2.2.2.2.2.2.2.2.2.2.1)
    have f173 := f151.other W159 (Ne.symm ho.2.2.2.2.2.2.2.2.2.2.2.2.2.2.1)
    have f174 := f152.other W159 (Ne.symm ho.2.2.2.2.2.2.2.2.2.2.2.2.2.2.2.1)
    have f175 := f153.other W159 (Ne.symm ho.2.2.2.2.2.2.2.2.2.2.2.2.2.2.2.2.1)
    have f176 := f154.other W159 (Ne.symm ho.2.2.2.2.2.2.2.2.2.2.2.2.2.2.2.2.2.1)
    have f177 := f155.other W159 (Ne.symm ne129)
    have f178 := f156.wr W159
    have K159 : Keep h0 h159 [zi, zd] := K137.wr W159 (Or.inl (List.mem_of_getElem? (i := 1) rfl))
    refine W.s1 (mkF m 61 #[.val (.ref ao), .val (.int xp), .val (.int xc)] [(.int xc), (.int (0 : Int32)), (.ref zc)]) (fun _ kx_ => XS.iloadN X159.here hx rfl (hb hby d5_60) rfl kx_) ?_
    refine W.sti X159 hx hZ e159 f177 0 rfl (by decide) N159 ge136 (hb hby d5_61) (pc' := 62) rfl (fun T179 h179 L179 X179 e179 W179 fw179 N179 => ?_)
    have Z179 : n0 ≤ h179.size := Nat.le_trans Z159 (Keep.of_wr W179).1
    have f180 := f160.wr W179
    have f181 := f161.other W179 (Or.inl ne127)
    have f182 := f162.other W179 (Or.inl ne127)
    have f183 := f163.other W179 (Or.inl ne127)
    have f184 := f164.other W179 (Or.inl ne127)
    have f185 := f165.other W179 (Or.inl ne127)
    have f186 := f166.other W179 (Or.inl ne127)
    have f187 := f167.other W179 (Or.inl ne127)
    have f188 := f168.other W179 (Or.inl ne127)
    have f189 := f169.other W179 (Or.inl ne127)
    have f190 := f170.other W179 (Or.inl ne127)
    have f191 := f171.other W179 ne128
    have f192 := fw159.other W179 ne129
    have f193 := f172.other W179 ne130
    have f194 := f173.other W179 ne131
    have f195 := f174.other W179 ne132
    have f196 := f175.other W179 ne133
    have f197 := f176.other W179 ne134
    have f198 := f178.wr W179
    have K179 : Keep h0 h179 [zi, zd] := K159.wr W179 (Or.inr szc)
    exact W.ret0 X179 hx hlk Bd.returns (hb hby d5_62) (by show Q5g Z ao xp xc zi zd zs zm zt zl zh xpc xcc fi fs fd fl fh k zb fb h0 n0 _ T179.heap _; rw [e179]; exact ⟨zc, _, rfl, N179, K179, szc, fw179, ⟨_, _, f180, f181, f182, f183, f184, f185, f186, f187, f188, f189, f190, f191, f192, f193, f194, f195, f196, f197⟩⟩) (by decide) (by decide)
theorem ef_5n (m : MethodId) (x0 : Addr) (x1 : Int32) (x2 : Int32) : entryFrame m #[(.ref x0), (.int x1), (.int x2)] 3 = mkF m 0 #[.val (.ref x0), .val (.int x1), .val (.int x2)] [] := by first | (simp [entryFrame, mkF, argsToLocals, Value.category]; done) | rfl
def Q5n (Z : State) (ao : Addr) (xp : Int32) (xc : Int32) (zi : Addr) (zd : Addr) (zs : Addr) (zm : Addr) (zt : Addr) (zl : Addr) (zh : Addr) (xpc : Int32) (xcc : Int32) (fi : Nat → Value) (fs : Nat → Value) (fd : Nat → Int32) (fl : Nat → Int64) (fh : Nat → Int64) (k : Nat) (zb : Addr) (fb : Nat → Int32) (h0 : Heap) (n0 : Nat) (v : Option Value) (h : Heap) (L : List Loc) : Prop := ∃ f2 : Nat → Int32, v = none ∧ Fr n0 L ∧ Keep h0 h [zd, zb] ∧ W.AI Z h zb .int 2 f2 ∧ own_DG Z h ao zi zd zs zm zt zl zh xpc xcc fi fs (W.up fd k 2) fl fh
set_option maxRecDepth 65536 in
set_option maxHeartbeats 40000000 in
theorem rm5n (l : Launch) (Z : State) (a0 : Array Value) (hw : ∀ d ∈ tables_1, d.before a0 Z = true) (ws : List Jvm.Cond) (ao : Addr) (xp : Int32) (xc : Int32) (zi : Addr) (zd : Addr) (zs : Addr) (zm : Addr) (zt : Addr) (zl : Addr) (zh : Addr) (xpc : Int32) (xcc : Int32) (fi : Nat → Value) (fs : Nat → Value) (fd : Nat → Int32) (fl : Nat → Int64) (fh : Nat → Int64) (k : Nat) (zb : Addr) (fb : Nat → Int32) (h0 : Heap) (n0 : Nat) (Z0 : n0 ≤ h0.size) (H0 : own_DG Z h0 ao zi zd zs zm zt zl zh xpc xcc fi fs fd fl fh) (ho : own_ord ao zi zd zs zm zt zl zh) (hge : own_ge n0 ao zi zd zs zm zt zl zh) (hk : xp.toInt = k) (hk8 : k < 8) (hfd : fd k = 1) (hfi : fi k = .ref zb) (Ab : W.AI Z h0 zb .int 2 fb) (nb : own_nb zb ao zi zd zs zm zt zl zh) (gb : n0 ≤ zb) :
    MetFree l (⟨"com/example/tempora/tempora/DistanceGraph", "attach", "(II)V"⟩ : MethodName) (head1 (Jvm.Cond.code (⟨"com/example/tempora/tempora/DistanceGraph", "attach", "(II)V"⟩ : MethodName) prog_5_method_18_code 3 none :: ws) ({ frames := 0, cells := 0, slots := 0, locals := 0 } : Room)) (fun a U => a = #[(.ref ao), (.int xp), (.int xc)] ∧ Z.Warmed39 U.vm ∧ U.heap = h0) (fun _ _ _ _ _ => True) (fun _ U o U' => ∃ v L, o = .returned v ∧ Q5n Z ao xp xc zi zd zs zm zt zl zh xpc xcc fi fs fd fl fh k zb fb h0 n0 v U'.heap L ∧ FrameEnd U o U' L ({ frames := 0, cells := 0, slots := 0, locals := 0 } : Room).cells ({ frames := 0, cells := 0, slots := 0, locals := 0 } : Room).slots) := by
  refine MetFree.of_bodySF (plainFor_of_name pn_0) hisR ?_
  intro p e s m args below meth c s₁ Bd hml0 hP hK
  obtain ⟨rfl, hZ, hh⟩ := hP
  have hx := Bd.exec
  have hby := Bd.bytes
  have hml : c.maxLocals = 3 := hml0
  have hown : s.vm.findClass "com/example/tempora/tempora/DistanceGraph" = some m.cls := findClass_of_methodNamed Bd.named
  have hnm := (name_of_methodNamed Bd.named Bd.method).1
  have hlk : meth.locks = false := BodyLoose.notSynchronized Bd
  have X0 : Stand p l e ({ frames := 0, cells := 0, slots := 0, locals := 0 } : Room) s m #[(.ref ao), (.int xp), (.int xc)] below meth c s₁ [] 0 0 := Stand.of_body Bd
  have e0 : s₁.heap = h0 := by rw [← hh, Bd.state]; rfl
  have N0 := Fr.nil n0
  show W.Gl p e below s (Q5n Z ao xp xc zi zd zs zm zt zl zh xpc xcc fi fs fd fl fh k zb fb h0 n0) ({ frames := 0, cells := 0, slots := 0, locals := 0 } : Room).cells ({ frames := 0, cells := 0, slots := 0, locals := 0 } : Room).slots s₁ (entryFrame m #[(.ref ao), (.int xp), (.int xc)] 3)
  refine W.cast (ef_5n m ao xp xc) ?_
  have K0 : Keep h0 h0 [zd, zb] := Keep.refl h0 [zd, zb]
  obtain ⟨fm, ft, ue1, ur0, ur1, ur2, ur3, ur4, ur5, ur6, ui0, ui1, ui2, ua0, ua1, ua2, ua3, ua4, ua5, ua6⟩ := H0
  refine W.s1 (mkF m 1 #[.val (.ref ao), .val (.int xp), .val (.int xc)] [(.ref ao)]) (fun _ kx_ => XS.aloadN X0.here hx rfl (hb hby d5_0) rfl rfl kx_) ?_
  refine W.getf X0 hx hZ hown (host := "") (Or.inl (hw _ (List.mem_of_getElem? (i := 19) rfl))) Via.refl e0 ur1 (hb hby d5_1) (pc' := 4) rfl (fun T101 X101 e101 => ?_)
  refine W.s1 (mkF m 5 #[.val (.ref ao), .val (.int xp), .val (.int xc)] [(.int xp), (.ref zd)]) (fun _ kx_ => XS.iloadN X101.here hx rfl (hb hby d5_4) rfl kx_) ?_
  refine W.ldi X101 hx hZ e101 ua1 k hk hk8 (hb hby d5_5) (pc' := 6) rfl ?_
  rw [hfd]
  refine W.s1 (mkF m 7 #[.val (.ref ao), .val (.int xp), .val (.int xc)] [(.ref ao), (.int (1 : Int32))]) (fun _ kx_ => XS.aloadN X101.here hx rfl (hb hby d5_6) rfl rfl kx_) ?_
  refine W.getf X101 hx hZ hown (host := "") (Or.inl (hw _ (List.mem_of_getElem? (i := 16) rfl))) Via.refl e101 ur0 (hb hby d5_7) (pc' := 10) rfl (fun T102 X102 e102 => ?_)
  refine W.s1 (mkF m 11 #[.val (.ref ao), .val (.int xp), .val (.int xc)] [(.int xp), (.ref zi), (.int (1 : Int32))]) (fun _ kx_ => XS.iloadN X102.here hx rfl (hb hby d5_10) rfl kx_) ?_
  refine W.ldr X102 hx hZ e102 ua0 rfl k hk hk8 (hb hby d5_11) (pc' := 12) rfl ?_
  rw [hfi]
  refine W.alen X102 hx hZ e102 Ab (z := (2 : Int32)) rfl (hb hby d5_12) (pc' := 13) rfl ?_
  refine W.icmp X102 hx (hb hby d5_13) (pc' := 43) (pc'' := 16) (by decide) (by decide) rfl (fun (c13 : ¬ (1 : Int32) = (2 : Int32)) => ?_) (fun (c13 : (1 : Int32) = (2 : Int32)) => ?_)
  · refine W.s1 (mkF m 44 #[.val (.ref ao), .val (.int xp), .val (.int xc)] [(.ref ao)]) (fun _ kx_ => XS.aloadN X102.here hx rfl (hb hby d5_43) rfl rfl kx_) ?_
    refine W.getf X102 hx hZ hown (host := "") (Or.inl (hw _ (List.mem_of_getElem? (i := 16) rfl))) Via.refl e102 ur0 (hb hby d5_44) (pc' := 47) rfl (fun T103 X103 e103 => ?_)
    refine W.s1 (mkF m 48 #[.val (.ref ao), .val (.int xp), .val (.int xc)] [(.int xp), (.ref zi)]) (fun _ kx_ => XS.iloadN X103.here hx rfl (hb hby d5_47) rfl kx_) ?_
    refine W.ldr X103 hx hZ e103 ua0 rfl k hk hk8 (hb hby d5_48) (pc' := 49) rfl ?_
    rw [hfi]
    refine W.s1 (mkF m 50 #[.val (.ref ao), .val (.int xp), .val (.int xc)] [(.ref ao), (.ref zb)]) (fun _ kx_ => XS.aloadN X103.here hx rfl (hb hby d5_49) rfl rfl kx_) ?_
    refine W.getf X103 hx hZ hown (host := "") (Or.inl (hw _ (List.mem_of_getElem? (i := 19) rfl))) Via.refl e103 ur1 (hb hby d5_50) (pc' := 53) rfl (fun T104 X104 e104 => ?_)
    refine W.s1 (mkF m 54 #[.val (.ref ao), .val (.int xp), .val (.int xc)] [(.int xp), (.ref zd), (.ref zb)]) (fun _ kx_ => XS.iloadN X104.here hx rfl (hb hby d5_53) rfl kx_) ?_
    refine W.s1 (mkF m 55 #[.val (.ref ao), .val (.int xp), .val (.int xc)] [(.int xp), (.ref zd), (.int xp), (.ref zd), (.ref zb)]) (fun _ kx_ => XT.dup2 X104.here hx rfl (hb hby d5_54) rfl rfl rfl kx_) ?_
    refine W.ldi X104 hx hZ e104 ua1 k hk hk8 (hb hby d5_55) (pc' := 56) rfl ?_
    rw [hfd]
    refine W.s1 (mkF m 57 #[.val (.ref ao), .val (.int xp), .val (.int xc)] [(.int (1 : Int32)), (.int xp), (.ref zd), (.int (1 : Int32)), (.ref zb)]) (fun _ kx_ => W.dupX2 X104.here hx rfl (hb hby d5_56) rfl rfl rfl rfl kx_) ?_
    refine W.s1 (mkF m 58 #[.val (.ref ao), .val (.int xp), .val (.int xc)] [(.int (1 : Int32)), (.int (1 : Int32)), (.int xp), (.ref zd), (.int (1 : Int32)), (.ref zb)]) (fun _ kx_ => XS.iconst X104.here hx rfl (hb hby d5_57) kx_) ?_
    refine W.s1 (mkF m 59 #[.val (.ref ao), .val (.int xp), .val (.int xc)] [(.int (2 : Int32)), (.int xp), (.ref zd), (.int (1 : Int32)), (.ref zb)]) (fun _ kx_ => XS.iadd X104.here hx rfl (hb hby d5_58) rfl kx_) ?_
    refine W.sti X104 hx hZ e104 ua1 k hk hk8 N0 hge.2.2.1 (hb hby d5_59) (pc' := 60) rfl (fun T105 h105 L105 X105 e105 W105 fw105 N105 => ?_)
    have Z105 : n0 ≤ h105.size := Nat.le_trans Z0 (Keep.of_wr W105).1
    have f106 := ue1.wr W105
    have f107 := ur0.other W105 (Or.inl ho.2.1)
    have f108 := ur1.other W105 (Or.inl ho.2.1)
    have f109 := ur2.other W105 (Or.inl ho.2.1)
    have f110 := ur3.other W105 (Or.inl ho.2.1)
    have f111 := ur4.other W105 (Or.inl ho.2.1)
    have f112 := ur5.other W105 (Or.inl ho.2.1)
    have f113 := ur6.other W105 (Or.inl ho.2.1)
    have f114 := ui0.other W105 (Or.inl ho.2.1)
    have f115 := ui1.other W105 (Or.inl ho.2.1)
    have f116 := ui2.other W105 (Or.inl ho.2.1)
    have f117 := ua0.other W105 ho.2.2.2.2.2.2.2.1
    have f118 := ua2.other W105 (Ne.symm ho.2.2.2.2.2.2.2.2.2.2.2.2.2.1)
    have f119 := ua3.other W105 (Ne.symm ho.2.2.2.2.2.2.2.2.2.2.2.2.2.2.1)
    have f120 := ua4.other W105 (Ne.symm ho.2.2.2.2.2.2.2.2.2.2.2.2.2.2.2.1)
    have f121 := ua5.other W105 (Ne.symm ho.2.2.2.2.2.2.2.2.2.2.2.2.2.2.2.2.1)
    have f122 := ua6.other W105 (Ne.symm ho.2.2.2.2.2.2.2.2.2.2.2.2.2.2.2.2.2.1)
    have f123 := Ab.other W105 nb.2.2.1
    have K105 : Keep h0 h105 [zd, zb] := K0.wr W105 (Or.inl (List.mem_of_getElem? (i := 0) rfl))
    refine W.s1 (mkF m 61 #[.val (.ref ao), .val (.int xp), .val (.int xc)] [(.int xc), (.int (1 : Int32)), (.ref zb)]) (fun _ kx_ => XS.iloadN X105.here hx rfl (hb hby d5_60) rfl kx_) ?_
    refine W.sti X105 hx hZ e105 f123 1 rfl (by decide) N105 gb (hb hby d5_61) (pc' := 62) rfl (fun T124 h124 L124 X124 e124 W124 fw124 N124 => ?_)
    have Z124 : n0 ≤ h124.size := Nat.le_trans Z105 (Keep.of_wr W124).1
    have f125 := f106.wr W124
    have f126 := f107.other W124 (Or.inl (Ne.symm nb.1))
    have f127 := f108.other W124 (Or.inl (Ne.symm nb.1))
    have f128 := f109.other W124 (Or.inl (Ne.symm nb.1))
    have f129 := f110.other W124 (Or.inl (Ne.symm nb.1))
    have f130 := f111.other W124 (Or.inl (Ne.symm nb.1))
    have f131 := f112.other W124 (Or.inl (Ne.symm nb.1))
    have f132 := f113.other W124 (Or.inl (Ne.symm nb.1))
    have f133 := f114.other W124 (Or.inl (Ne.symm nb.1))
    have f134 := f115.other W124 (Or.inl (Ne.symm nb.1))
    have f135 := f116.other W124 (Or.inl (Ne.symm nb.1))
    have f136 := f117.other W124 (Ne.symm nb.2.1)
    have f137 := fw105.other W124 (Ne.symm nb.2.2.1)
    have f138 := f118.other W124 (Ne.symm nb.2.2.2.1)
    have f139 := f119.other W124 (Ne.symm nb.2.2.2.2.1)
    have f140 := f120.other W124 (Ne.symm nb.2.2.2.2.2.1)
    have f141 := f121.other W124 (Ne.symm nb.2.2.2.2.2.2.1)
    have f142 := f122.other W124 (Ne.symm nb.2.2.2.2.2.2.2)
    have K124 : Keep h0 h124 [zd, zb] := K105.wr W124 (Or.inl (List.mem_of_getElem? (i := 1) rfl))
    exact W.ret0 X124 hx hlk Bd.returns (hb hby d5_62) (by show Q5n Z ao xp xc zi zd zs zm zt zl zh xpc xcc fi fs fd fl fh k zb fb h0 n0 _ T124.heap _; rw [e124]; exact ⟨_, rfl, N124, K124, fw124, ⟨_, _, f125, f126, f127, f128, f129, f130, f131, f132, f133, f134, f135, f136, f137, f138, f139, f140, f141, f142⟩⟩) (by decide) (by decide)
  · exact absurd c13 (by decide)
theorem ef_4a (m : MethodId) (x0 : Addr) (x1 : Int32) (x2 : Int32) (x3 : Int64) (x4 : Int64) : entryFrame m #[(.ref x0), (.int x1), (.int x2), (.long x3), (.long x4)] 9 = mkF m 0 #[.val (.ref x0), .val (.int x1), .val (.int x2), .val (.long x3), .second, .val (.long x4), .second, .unset, .unset] [] := by first | (simp [entryFrame, mkF, argsToLocals, Value.category]; done) | rfl
theorem d4_0 : decode prog_5_method_3_code 0 = .ok (.aload_n 0, 1) := by decide +kernel
theorem d4_1 : decode prog_5_method_3_code 1 = .ok (.getfield 59, 3) := by decide +kernel
theorem d4_4 : decode prog_5_method_3_code 4 = .ok (.ifCond .le 24, 3) := by decide +kernel
theorem d4_28 : decode prog_5_method_3_code 28 = .ok (.aload_n 0, 1) := by decide +kernel
theorem d4_29 : decode prog_5_method_3_code 29 = .ok (.getfield 62, 3) := by decide +kernel
theorem d4_32 : decode prog_5_method_3_code 32 = .ok (.aload_n 0, 1) := by decide +kernel
theorem d4_33 : decode prog_5_method_3_code 33 = .ok (.getfield 27, 3) := by decide +kernel
theorem d4_36 : decode prog_5_method_3_code 36 = .ok (.arraylength, 1) := by decide +kernel
theorem d4_37 : decode prog_5_method_3_code 37 = .ok (.if_icmp .ne 77, 3) := by decide +kernel
theorem d4_114 : decode prog_5_method_3_code 114 = .ok (.aload_n 0, 1) := by decide +kernel
theorem d4_115 : decode prog_5_method_3_code 115 = .ok (.dup, 1) := by decide +kernel
theorem d4_116 : decode prog_5_method_3_code 116 = .ok (.getfield 62, 3) := by decide +kernel
theorem d4_119 : decode prog_5_method_3_code 119 = .ok (.dup_x1, 1) := by decide +kernel
theorem d4_120 : decode prog_5_method_3_code 120 = .ok (.iconst 1, 1) := by decide +kernel
theorem d4_121 : decode prog_5_method_3_code 121 = .ok (.iadd, 1) := by decide +kernel
theorem d4_122 : decode prog_5_method_3_code 122 = .ok (.putfield 62, 3) := by decide +kernel
theorem d4_125 : decode prog_5_method_3_code 125 = .ok (.istore 7, 2) := by decide +kernel
theorem d4_127 : decode prog_5_method_3_code 127 = .ok (.aload_n 0, 1) := by decide +kernel
theorem d4_128 : decode prog_5_method_3_code 128 = .ok (.getfield 27, 3) := by decide +kernel
theorem d4_131 : decode prog_5_method_3_code 131 = .ok (.iload 7, 2) := by decide +kernel
theorem d4_133 : decode prog_5_method_3_code 133 = .ok (.iload_n 1, 1) := by decide +kernel
theorem d4_134 : decode prog_5_method_3_code 134 = .ok (.iastore, 1) := by decide +kernel
theorem d4_135 : decode prog_5_method_3_code 135 = .ok (.aload_n 0, 1) := by decide +kernel
theorem d4_136 : decode prog_5_method_3_code 136 = .ok (.getfield 30, 3) := by decide +kernel
theorem d4_139 : decode prog_5_method_3_code 139 = .ok (.iload 7, 2) := by decide +kernel
theorem d4_141 : decode prog_5_method_3_code 141 = .ok (.iload_n 2, 1) := by decide +kernel
theorem d4_142 : decode prog_5_method_3_code 142 = .ok (.iastore, 1) := by decide +kernel
theorem d4_143 : decode prog_5_method_3_code 143 = .ok (.aload_n 0, 1) := by decide +kernel
theorem d4_144 : decode prog_5_method_3_code 144 = .ok (.getfield 33, 3) := by decide +kernel
theorem d4_147 : decode prog_5_method_3_code 147 = .ok (.iload 7, 2) := by decide +kernel
theorem d4_149 : decode prog_5_method_3_code 149 = .ok (.lload_n 3, 1) := by decide +kernel
theorem d4_150 : decode prog_5_method_3_code 150 = .ok (.lastore, 1) := by decide +kernel
theorem d4_151 : decode prog_5_method_3_code 151 = .ok (.aload_n 0, 1) := by decide +kernel
theorem d4_152 : decode prog_5_method_3_code 152 = .ok (.getfield 37, 3) := by decide +kernel
theorem d4_155 : decode prog_5_method_3_code 155 = .ok (.iload 7, 2) := by decide +kernel
theorem d4_157 : decode prog_5_method_3_code 157 = .ok (.lload 5, 2) := by decide +kernel
theorem d4_159 : decode prog_5_method_3_code 159 = .ok (.lastore, 1) := by decide +kernel
theorem d4_160 : decode prog_5_method_3_code 160 = .ok (.aload_n 0, 1) := by decide +kernel
theorem d4_161 : decode prog_5_method_3_code 161 = .ok (.iload_n 1, 1) := by decide +kernel
theorem d4_162 : decode prog_5_method_3_code 162 = .ok (.iload 7, 2) := by decide +kernel
theorem d4_164 : decode prog_5_method_3_code 164 = .ok (.invokevirtual 68, 3) := by decide +kernel
theorem pd_2 : parseMethodDescriptor "(II)V" = some ⟨[.int, .int], none⟩ := by decide +kernel
theorem d4_167 : decode prog_5_method_3_code 167 = .ok (.iload_n 2, 1) := by decide +kernel
theorem d4_168 : decode prog_5_method_3_code 168 = .ok (.iload_n 1, 1) := by decide +kernel
theorem d4_169 : decode prog_5_method_3_code 169 = .ok (.if_icmp .eq 10, 3) := by decide +kernel
theorem d4_172 : decode prog_5_method_3_code 172 = .ok (.aload_n 0, 1) := by decide +kernel
theorem d4_173 : decode prog_5_method_3_code 173 = .ok (.iload_n 2, 1) := by decide +kernel
theorem d4_174 : decode prog_5_method_3_code 174 = .ok (.iload 7, 2) := by decide +kernel
theorem d4_176 : decode prog_5_method_3_code 176 = .ok (.invokevirtual 68, 3) := by decide +kernel
theorem d4_179 : decode prog_5_method_3_code 179 = .ok (.iload 7, 2) := by decide +kernel
theorem d4_181 : decode prog_5_method_3_code 181 = .ok (.ireturn, 1) := by decide +kernel
def Q4a (Z : State) (ao : Addr) (xp : Int32) (xq : Int32) (ylo : Int64) (yhi : Int64) (zi : Addr) (zd : Addr) (zs : Addr) (zm : Addr) (zt : Addr) (zl : Addr) (zh : Addr) (xpc : Int32) (xcc : Int32) (fi : Nat → Value) (fs : Nat → Value) (fd : Nat → Int32) (fl : Nat → Int64) (fh : Nat → Int64) (kp : Nat) (kq : Nat) (kc : Nat) (zbp : Addr) (fbp : Nat → Int32) (zbq : Addr) (fbq : Nat → Int32) (h0 : Heap) (n0 : Nat) (v : Option Value) (h : Heap) (L : List Loc) : Prop := ∃ (b1 b2 : Addr) (f1 f2 : Nat → Int32), v = some (.int xcc) ∧ Fr n0 L ∧ Keep h0 h [ao, zm, zt, zl, zh, zi, zd] ∧ h0.size ≤ b1 ∧ h0.size ≤ b2 ∧ b1 ≠ b2 ∧ W.AI Z h b1 .int 2 f1 ∧ W.AI Z h b2 .int 2 f2 ∧ own_DG Z h ao zi zd zs zm zt zl zh xpc (xcc + 1) (W.up (W.up fi kp (.ref b1)) kq (.ref b2)) fs (W.up (W.up fd kp 1) kq 1) (W.up fl kc ylo) (W.up fh kc yhi)
set_option maxRecDepth 65536 in
set_option maxHeartbeats 40000000 in
theorem rm4a (l : Launch) (Z : State) (a0 : Array Value) (hw : ∀ d ∈ tables_1, d.before a0 Z = true) (ws : List Jvm.Cond) (ao : Addr) (xp : Int32) (xq : Int32) (ylo : Int64) (yhi : Int64) (zi : Addr) (zd : Addr) (zs : Addr) (zm : Addr) (zt : Addr) (zl : Addr) (zh : Addr) (xpc : Int32) (xcc : Int32) (fi : Nat → Value) (fs : Nat → Value) (fd : Nat → Int32) (fl : Nat → Int64) (fh : Nat → Int64) (kp : Nat) (kq : Nat) (kc : Nat) (zbp : Addr) (fbp : Nat → Int32) (zbq : Addr) (fbq : Nat → Int32) (h0 : Heap) (n0 : Nat) (Z0 : n0 ≤ h0.size) (H0 : own_DG Z h0 ao zi zd zs zm zt zl zh xpc xcc fi fs fd fl fh) (ho : own_ord ao zi zd zs zm zt zl zh) (hge : own_ge n0 ao zi zd zs zm zt zl zh) (hkp : xp.toInt = kp) (hkp8 : kp < 8) (hkq : xq.toInt = kq) (hkq8 : kq < 8) (hkc : xcc.toInt = kc) (hkc8 : kc < 8) (hfdp : fd kp = 0) (hfip : fi kp = .ref zbp) (Abp : W.AI Z h0 zbp .int 0 fbp) (nbp : own_nb zbp ao zi zd zs zm zt zl zh) (gbp : n0 ≤ zbp) (hpq : ¬ xq = xp) (hfdq : fd kq = 0) (hfiq : fi kq = .ref zbq) (Abq : W.AI Z h0 zbq .int 0 fbq) (nbq : own_nb zbq ao zi zd zs zm zt zl zh) (gbq : n0 ≤ zbq) (npq : zbp ≠ zbq) :
    MetFree l (⟨"com/example/tempora/tempora/DistanceGraph", "addConstraint", "(IIJJ)I"⟩ : MethodName) (head1 (Jvm.Cond.code (⟨"com/example/tempora/tempora/DistanceGraph", "addConstraint", "(IIJJ)I"⟩ : MethodName) prog_5_method_3_code 9 (some .int) :: ws) ({ frames := 3, cells := 2, slots := 4, locals := 50 } : Room)) (fun a U => a = #[(.ref ao), (.int xp), (.int xq), (.long ylo), (.long yhi)] ∧ Z.Warmed39 U.vm ∧ U.heap = h0) (fun _ _ _ _ _ => True) (fun _ U o U' => ∃ v L, o = .returned v ∧ Q4a Z ao xp xq ylo yhi zi zd zs zm zt zl zh xpc xcc fi fs fd fl fh kp kq kc zbp fbp zbq fbq h0 n0 v U'.heap L ∧ FrameEnd U o U' L ({ frames := 3, cells := 2, slots := 4, locals := 50 } : Room).cells ({ frames := 3, cells := 2, slots := 4, locals := 50 } : Room).slots) := by
  refine MetFree.of_bodySF (plainFor_of_name pn_0) hisR ?_
  intro p e s m args below meth c s₁ Bd hml0 hP hK
  obtain ⟨rfl, hZ, hh⟩ := hP
  have hx := Bd.exec
  have hby := Bd.bytes
  have hml : c.maxLocals = 9 := hml0
  have hown : s.vm.findClass "com/example/tempora/tempora/DistanceGraph" = some m.cls := findClass_of_methodNamed Bd.named
  have hnm := (name_of_methodNamed Bd.named Bd.method).1
  have hlk : meth.locks = false := BodyLoose.notSynchronized Bd
  have X0 : Stand p l e ({ frames := 3, cells := 2, slots := 4, locals := 50 } : Room) s m #[(.ref ao), (.int xp), (.int xq), (.long ylo), (.long yhi)] below meth c s₁ [] 0 0 := Stand.of_body Bd
  have e0 : s₁.heap = h0 := by rw [← hh, Bd.state]; rfl
  have N0 := Fr.nil n0
  show W.Gl p e below s (Q4a Z ao xp xq ylo yhi zi zd zs zm zt zl zh xpc xcc fi fs fd fl fh kp kq kc zbp fbp zbq fbq h0 n0) ({ frames := 3, cells := 2, slots := 4, locals := 50 } : Room).cells ({ frames := 3, cells := 2, slots := 4, locals := 50 } : Room).slots s₁ (entryFrame m #[(.ref ao), (.int xp), (.int xq), (.long ylo), (.long yhi)] 9)
  refine W.cast (ef_4a m ao xp xq ylo yhi) ?_
  have K0 : Keep h0 h0 [ao, zm, zt, zl, zh, zi, zd] := Keep.refl h0 [ao, zm, zt, zl, zh, zi, zd]
  obtain ⟨fm, ft, ue1, ur0, ur1, ur2, ur3, ur4, ur5, ur6, ui0, ui1, ui2, ua0, ua1, ua2, ua3, ua4, ua5, ua6⟩ := H0
  have hkk : ¬ kq = kp := fun q => hpq (Int32.toInt_inj.mp (by omega))
  refine W.s1 (mkF m 1 #[.val (.ref ao), .val (.int xp), .val (.int xq), .val (.long ylo), .second, .val (.long yhi), .second, .unset, .unset] [(.ref ao)]) (fun _ kx_ => XS.aloadN X0.here hx rfl (hb hby d4_0) rfl rfl kx_) ?_
  refine W.getf X0 hx hZ hown (host := "") (Or.inl (hw _ (List.mem_of_getElem? (i := 50) rfl))) Via.refl e0 ui1 (hb hby d4_1) (pc' := 4) rfl (fun T101 X101 e101 => ?_)
  refine W.ifc X101 hx (hb hby d4_4) (pc' := 28) (pc'' := 7) (by decide) (by decide) rfl (fun (c4 : ¬ (0 : Int32) < (0 : Int32)) => ?_) (fun (c4 : (0 : Int32) < (0 : Int32)) => ?_)
  · refine W.s1 (mkF m 29 #[.val (.ref ao), .val (.int xp), .val (.int xq), .val (.long ylo), .second, .val (.long yhi), .second, .unset, .unset] [(.ref ao)]) (fun _ kx_ => XS.aloadN X101.here hx rfl (hb hby d4_28) rfl rfl kx_) ?_
    refine W.getf X101 hx hZ hown (host := "") (Or.inl (hw _ (List.mem_of_getElem? (i := 52) rfl))) Via.refl e101 ui2 (hb hby d4_29) (pc' := 32) rfl (fun T102 X102 e102 => ?_)
    refine W.s1 (mkF m 33 #[.val (.ref ao), .val (.int xp), .val (.int xq), .val (.long ylo), .second, .val (.long yhi), .second, .unset, .unset] [(.ref ao), (.int xcc)]) (fun _ kx_ => XS.aloadN X102.here hx rfl (hb hby d4_32) rfl rfl kx_) ?_
    refine W.getf X102 hx hZ hown (host := "") (Or.inl (hw _ (List.mem_of_getElem? (i := 27) rfl))) Via.refl e102 ur3 (hb hby d4_33) (pc' := 36) rfl (fun T103 X103 e103 => ?_)
    refine W.alen X103 hx hZ e103 ua3 (z := (8 : Int32)) rfl (hb hby d4_36) (pc' := 37) rfl ?_
    refine W.icmp X103 hx (hb hby d4_37) (pc' := 114) (pc'' := 40) (by decide) (by decide) rfl (fun (c37 : ¬ xcc = (8 : Int32)) => ?_) (fun (c37 : xcc = (8 : Int32)) => ?_)
    · refine W.s1 (mkF m 115 #[.val (.ref ao), .val (.int xp), .val (.int xq), .val (.long ylo), .second, .val (.long yhi), .second, .unset, .unset] [(.ref ao)]) (fun _ kx_ => XS.aloadN X103.here hx rfl (hb hby d4_114) rfl rfl kx_) ?_
      refine W.s1 (mkF m 116 #[.val (.ref ao), .val (.int xp), .val (.int xq), .val (.long ylo), .second, .val (.long yhi), .second, .unset, .unset] [(.ref ao), (.ref ao)]) (fun _ kx_ => XS.dup X103.here hx rfl (hb hby d4_115) rfl rfl kx_) ?_
      refine W.getf X103 hx hZ hown (host := "") (Or.inl (hw _ (List.mem_of_getElem? (i := 52) rfl))) Via.refl e103 ui2 (hb hby d4_116) (pc' := 119) rfl (fun T104 X104 e104 => ?_)
      refine W.s1 (mkF m 120 #[.val (.ref ao), .val (.int xp), .val (.int xq), .val (.long ylo), .second, .val (.long yhi), .second, .unset, .unset] [(.int xcc), (.ref ao), (.int xcc)]) (fun _ kx_ => XS.dupX1 X104.here hx rfl (hb hby d4_119) rfl rfl rfl kx_) ?_
      refine W.s1 (mkF m 121 #[.val (.ref ao), .val (.int xp), .val (.int xq), .val (.long ylo), .second, .val (.long yhi), .second, .unset, .unset] [(.int (1 : Int32)), (.int xcc), (.ref ao), (.int xcc)]) (fun _ kx_ => XS.iconst X104.here hx rfl (hb hby d4_120) kx_) ?_
      refine W.s1 (mkF m 122 #[.val (.ref ao), .val (.int xp), .val (.int xq), .val (.long ylo), .second, .val (.long yhi), .second, .unset, .unset] [(.int (xcc + (1 : Int32))), (.ref ao), (.int xcc)]) (fun _ kx_ => XS.iadd X104.here hx rfl (hb hby d4_121) rfl kx_) ?_
      refine W.putf X104 hx hZ hown (host := "") (Or.inl (hw _ (List.mem_of_getElem? (i := 52) rfl))) Via.refl e104 ui2 ue1 (Or.inl (hw _ (List.mem_of_getElem? (i := 53) rfl))) (hw _ (List.mem_of_getElem? (i := 6) rfl)) (ty := .int) (by decide) rfl rfl N0 hge.1 (hb hby d4_122) (pc' := 125) rfl (fun T105 h105 L105 X105 e105 W105 fw105 N105 => ?_)
      have Z105 : n0 ≤ h105.size := Nat.le_trans Z0 (Keep.of_wr W105).1
      have f106 := ue1.wr W105
      have f107 := ur0.other W105 (Or.inr (slot_ne (Or.inl (hw _ (List.mem_of_getElem? (i := 17) rfl))) (Or.inl (hw _ (List.mem_of_getElem? (i := 53) rfl))) (by decide) (t := (.array (.array .int))) (t' := .int) (by decide) (by decide)))
      have f108 := ur1.other W105 (Or.inr (slot_ne (Or.inl (hw _ (List.mem_of_getElem? (i := 20) rfl))) (Or.inl (hw _ (List.mem_of_getElem? (i := 53) rfl))) (by decide) (t := (.array .int)) (t' := .int) (by decide) (by decide)))
      have f109 := ur2.other W105 (Or.inr (slot_ne (Or.inl (hw _ (List.mem_of_getElem? (i := 24) rfl))) (Or.inl (hw _ (List.mem_of_getElem? (i := 53) rfl))) (by decide) (t := (.array (.object "com/example/tempora/tempora/PointStatus"))) (t' := .int) (by decide) (by decide)))
      have f110 := ur3.other W105 (Or.inr (slot_ne (Or.inl (hw _ (List.mem_of_getElem? (i := 28) rfl))) (Or.inl (hw _ (List.mem_of_getElem? (i := 53) rfl))) (by decide) (t := (.array .int)) (t' := .int) (by decide) (by decide)))
      have f111 := ur4.other W105 (Or.inr (slot_ne (Or.inl (hw _ (List.mem_of_getElem? (i := 30) rfl))) (Or.inl (hw _ (List.mem_of_getElem? (i := 53) rfl))) (by decide) (t := (.array .int)) (t' := .int) (by decide) (by decide)))
      have f112 := ur5.other W105 (Or.inr (slot_ne (Or.inl (hw _ (List.mem_of_getElem? (i := 33) rfl))) (Or.inl (hw _ (List.mem_of_getElem? (i := 53) rfl))) (by decide) (t := (.array .long)) (t' := .int) (by decide) (by decide)))
      have f113 := ur6.other W105 (Or.inr (slot_ne (Or.inl (hw _ (List.mem_of_getElem? (i := 35) rfl))) (Or.inl (hw _ (List.mem_of_getElem? (i := 53) rfl))) (by decide) (t := (.array .long)) (t' := .int) (by decide) (by decide)))
      have f114 := ui0.other W105 (Or.inr (slot_ne (Or.inl (hw _ (List.mem_of_getElem? (i := 42) rfl))) (Or.inl (hw _ (List.mem_of_getElem? (i := 53) rfl))) (by decide) (t := .int) (t' := .int) (by decide) (by decide)))
      have f115 := ui1.other W105 (Or.inr (slot_ne (Or.inl (hw _ (List.mem_of_getElem? (i := 51) rfl))) (Or.inl (hw _ (List.mem_of_getElem? (i := 53) rfl))) (by decide) (t := .int) (t' := .int) (by decide) (by decide)))
      have f116 := ua0.other W105 (Ne.symm ho.1)
      have f117 := ua1.other W105 (Ne.symm ho.2.1)
      have f118 := ua2.other W105 (Ne.symm ho.2.2.1)
      have f119 := ua3.other W105 (Ne.symm ho.2.2.2.1)
      have f120 := ua4.other W105 (Ne.symm ho.2.2.2.2.1)
      have f121 := ua5.other W105 (Ne.symm ho.2.2.2.2.2.1)
      have f122 := ua6.other W105 (Ne.symm ho.2.2.2.2.2.2.1)
      have f123 := Abp.other W105 nbp.1
      have f124 := Abq.other W105 nbq.1
      have K105 : Keep h0 h105 [ao, zm, zt, zl, zh, zi, zd] := K0.wr W105 (Or.inl (List.mem_of_getElem? (i := 0) rfl))
      refine W.s1 (mkF m 127 #[.val (.ref ao), .val (.int xp), .val (.int xq), .val (.long ylo), .second, .val (.long yhi), .second, .val (.int xcc), .unset] []) (fun _ kx_ => XS.istore X105.here hx rfl (hb hby d4_125) rfl (l' := #[.val (.ref ao), .val (.int xp), .val (.int xq), .val (.long ylo), .second, .val (.long yhi), .second, .val (.int xcc), .unset]) rfl kx_) ?_
      refine W.s1 (mkF m 128 #[.val (.ref ao), .val (.int xp), .val (.int xq), .val (.long ylo), .second, .val (.long yhi), .second, .val (.int xcc), .unset] [(.ref ao)]) (fun _ kx_ => XS.aloadN X105.here hx rfl (hb hby d4_127) rfl rfl kx_) ?_
      refine W.getf X105 hx hZ hown (host := "") (Or.inl (hw _ (List.mem_of_getElem? (i := 27) rfl))) Via.refl e105 f110 (hb hby d4_128) (pc' := 131) rfl (fun T125 X125 e125 => ?_)
      refine W.s1 (mkF m 133 #[.val (.ref ao), .val (.int xp), .val (.int xq), .val (.long ylo), .second, .val (.long yhi), .second, .val (.int xcc), .unset] [(.int xcc), (.ref zm)]) (fun _ kx_ => XS.iload X125.here hx rfl (hb hby d4_131) rfl kx_) ?_
      refine W.s1 (mkF m 134 #[.val (.ref ao), .val (.int xp), .val (.int xq), .val (.long ylo), .second, .val (.long yhi), .second, .val (.int xcc), .unset] [(.int xp), (.int xcc), (.ref zm)]) (fun _ kx_ => XS.iloadN X125.here hx rfl (hb hby d4_133) rfl kx_) ?_
      refine W.sti X125 hx hZ e125 f119 kc hkc hkc8 N105 hge.2.2.2.2.1 (hb hby d4_134) (pc' := 135) rfl (fun T126 h126 L126 X126 e126 W126 fw126 N126 => ?_)
      have Z126 : n0 ≤ h126.size := Nat.le_trans Z105 (Keep.of_wr W126).1
      have f127 := f106.wr W126
      have f128 := f107.other W126 (Or.inl ho.2.2.2.1)
      have f129 := f108.other W126 (Or.inl ho.2.2.2.1)
      have f130 := f109.other W126 (Or.inl ho.2.2.2.1)
      have f131 := f110.other W126 (Or.inl ho.2.2.2.1)
      have f132 := f111.other W126 (Or.inl ho.2.2.2.1)
      have f133 := f112.other W126 (Or.inl ho.2.2.2.1)
      have f134 := f113.other W126 (Or.inl ho.2.2.2.1)
      have f135 := f114.other W126 (Or.inl ho.2.2.2.1)
      have f136 := f115.other W126 (Or.inl ho.2.2.2.1)
      have f137 := fw105.other W126 (Or.inl ho.2.2.2.1)
      have f138 := f116.other W126 ho.2.2.2.2.2.2.2.2.2.1
      have f139 := f117.other W126 ho.2.2.2.2.2.2.2.2.2.2.2.2.2.2.1
      have f140 := f118.other W126 ho.2.2.2.2.2.2.2.2.2.2.2.2.2.2.2.2.2.2.1
      have f141 := f120.other W126 (Ne.symm ho.2.2.2.2.2.2.2.2.2.2.2.2.2.2.2.2.2.2.2.2.2.2.1)
      have f142 := f121.other W126 (Ne.symm ho.2.2.2.2.2.2.2.2.2.2.2.2.2.2.2.2.2.2.2.2.2.2.2.1)
      have f143 := f122.other W126 (Ne.symm ho.2.2.2.2.2.2.2.2.2.2.2.2.2.2.2.2.2.2.2.2.2.2.2.2.1)
      have f144 := f123.other W126 nbp.2.2.2.2.1
      have f145 := f124.other W126 nbq.2.2.2.2.1
      have K126 : Keep h0 h126 [ao, zm, zt, zl, zh, zi, zd] := K105.wr W126 (Or.inl (List.mem_of_getElem? (i := 1) rfl))
      refine W.s1 (mkF m 136 #[.val (.ref ao), .val (.int xp), .val (.int xq), .val (.long ylo), .second, .val (.long yhi), .second, .val (.int xcc), .unset] [(.ref ao)]) (fun _ kx_ => XS.aloadN X126.here hx rfl (hb hby d4_135) rfl rfl kx_) ?_
      refine W.getf X126 hx hZ hown (host := "") (Or.inl (hw _ (List.mem_of_getElem? (i := 29) rfl))) Via.refl e126 f132 (hb hby d4_136) (pc' := 139) rfl (fun T146 X146 e146 => ?_)
      refine W.s1 (mkF m 141 #[.val (.ref ao), .val (.int xp), .val (.int xq), .val (.long ylo), .second, .val (.long yhi), .second, .val (.int xcc), .unset] [(.int xcc), (.ref zt)]) (fun _ kx_ => XS.iload X146.here hx rfl (hb hby d4_139) rfl kx_) ?_
      refine W.s1 (mkF m 142 #[.val (.ref ao), .val (.int xp), .val (.int xq), .val (.long ylo), .second, .val (.long yhi), .second, .val (.int xcc), .unset] [(.int xq), (.int xcc), (.ref zt)]) (fun _ kx_ => XS.iloadN X146.here hx rfl (hb hby d4_141) rfl kx_) ?_
      refine W.sti X146 hx hZ e146 f141 kc hkc hkc8 N126 hge.2.2.2.2.2.1 (hb hby d4_142) (pc' := 143) rfl (fun T147 h147 L147 X147 e147 W147 fw147 N147 => ?_)
      have Z147 : n0 ≤ h147.size := Nat.le_trans Z126 (Keep.of_wr W147).1
      have f148 := f127.wr W147
      have f149 := f128.other W147 (Or.inl ho.2.2.2.2.1)
      have f150 := f129.other W147 (Or.inl ho.2.2.2.2.1)
      have f151 := f130.other W147 (Or.inl ho.2.2.2.2.1)
      have f152 := f131.other W147 (Or.inl ho.2.2.2.2.1)
      have f153 := f132.other W147 (Or.inl ho.2.2.2.2.1)
      have f154 := f133.other W147 (Or.inl ho.2.2.2.2.1)
      have f155 := f134.other W147 (Or.inl ho.2.2.2.2.1)
      have f156 := f135.other W147 (Or.inl ho.2.2.2.2.1)
      have f157 := f136.other W147 (Or.inl ho.2.2.2.2.1)
      have f158 := f137.other W147 (Or.inl ho.2.2.2.2.1)
      have f159 := f138.other W147 ho.2.2.2.2.2.2.2.2.2.2.1
      have f160 := f139.other W147 ho.2.2.2.2.2.2.2.2.2.2.2.2.2.2.2.1
      have f161 := f140.other W147 ho.2.2.2.2.2.2.2.2.2.2.2.2.2.2.2.2.2.2.2.1
      have f162 := fw126.other W147 ho.2.2.2.2.2.2.2.2.2.2.2.2.2.2.2.2.2.2.2.2.2.2.1
      have f163 := f142.other W147 (Ne.symm ho.2.2.2.2.2.2.2.2.2.2.2.2.2.2.2.2.2.2.2.2.2.2.2.2.2.1)
      have f164 := f143.other W147 (Ne.symm ho.2.2.2.2.2.2.2.2.2.2.2.2.2.2.2.2.2.2.2.2.2.2.2.2.2.2.1)
      have f165 := f144.other W147 nbp.2.2.2.2.2.1
      have f166 := f145.other W147 nbq.2.2.2.2.2.1
      have K147 : Keep h0 h147 [ao, zm, zt, zl, zh, zi, zd] := K126.wr W147 (Or.inl (List.mem_of_getElem? (i := 2) rfl))
      refine W.s1 (mkF m 144 #[.val (.ref ao), .val (.int xp), .val (.int xq), .val (.long ylo), .second, .val (.long yhi), .second, .val (.int xcc), .unset] [(.ref ao)]) (fun _ kx_ => XS.aloadN X147.here hx rfl (hb hby d4_143) rfl rfl kx_) ?_
      refine W.getf X147 hx hZ hown (host := "") (Or.inl (hw _ (List.mem_of_getElem? (i := 32) rfl))) Via.refl e147 f154 (hb hby d4_144) (pc' := 147) rfl (fun T167 X167 e167 => ?_)
      refine W.s1 (mkF m 149 #[.val (.ref ao), .val (.int xp), .val (.int xq), .val (.long ylo), .second, .val (.long yhi), .second, .val (.int xcc), .unset] [(.int xcc), (.ref zl)]) (fun _ kx_ => XS.iload X167.here hx rfl (hb hby d4_147) rfl kx_) ?_
      refine W.s1 (mkF m 150 #[.val (.ref ao), .val (.int xp), .val (.int xq), .val (.long ylo), .second, .val (.long yhi), .second, .val (.int xcc), .unset] [(.long ylo), (.int xcc), (.ref zl)]) (fun _ kx_ => XS.lloadN X167.here hx rfl (hb hby d4_149) rfl kx_) ?_
      refine W.stj X167 hx hZ e167 f163 kc hkc hkc8 N147 hge.2.2.2.2.2.2.1 (hb hby d4_150) (pc' := 151) rfl (fun T168 h168 L168 X168 e168 W168 fw168 N168 => ?_)
      have Z168 : n0 ≤ h168.size := Nat.le_trans Z147 (Keep.of_wr W168).1
      have f169 := f148.wr W168
      have f170 := f149.other W168 (Or.inl ho.2.2.2.2.2.1)
      have f171 := f150.other W168 (Or.inl ho.2.2.2.2.2.1)
      have f172 := f151.other W168 (Or.inl ho.2.2.2.2.2.1)
      have f173 := f152.other W168 (Or.inl ho.2.2.2.2.2.1)
      have f174 := f153.other W168 (Or.inl ho.2.2.2.2.2.1)
      have f175 := f154.other W168 (Or.inl ho.2.2.2.2.2.1)
      have f176 := f155.other W168 (Or.inl ho.2.2.2.2.2.1)
      have f177 := f156.other W168 (Or.inl ho.2.2.2.2.2.1)
      have f178 := f157.other W168 (Or.inl ho.2.2.2.2.2.1)
      have f179 := f158.other W168 (Or.inl ho.2.2.2.2.2.1)
      have f180 := f159.other W168 ho.2.2.2.2.2.2.2.2.2.2.2.1
      have f181 := f160.other W168 ho.2.2.2.2.2.2.2.2.2.2.2.2.2.2.2.2.1
      have f182 := f161.other W168 ho.2.2.2.2.2.2.2.2.2.2.2.2.2.2.2.2.2.2.2.2.1
      have f183 := f162.other W168 ho.2.2.2.2.2.2.2.2.2.2.2.2.2.2.2.2.2.2.2.2.2.2.2.1
      have f184 := fw147.other W168 ho.2.2.2.2.2.2.2.2.2.2.2.2.2.2.2.2.2.2.2.2.2.2.2.2.2.1
      have f185 := f164.other W168 (Ne.symm ho.2.2.2.2.2.2.2.2.2.2.2.2.2.2.2.2.2.2.2.2.2.2.2.2.2.2.2)
      have f186 := f165.other W168 nbp.2.2.2.2.2.2.1
      have f187 := f166.other W168 nbq.2.2.2.2.2.2.1
      have K168 : Keep h0 h168 [ao, zm, zt, zl, zh, zi, zd] := K147.wr W168 (Or.inl (List.mem_of_getElem? (i := 3) rfl))
      refine W.s1 (mkF m 152 #[.val (.ref ao), .val (.int xp), .val (.int xq), .val (.long ylo), .second, .val (.long yhi), .second, .val (.int xcc), .unset] [(.ref ao)]) (fun _ kx_ => XS.aloadN X168.here hx rfl (hb hby d4_151) rfl rfl kx_) ?_
      refine W.getf X168 hx hZ hown (host := "") (Or.inl (hw _ (List.mem_of_getElem? (i := 34) rfl))) Via.refl e168 f176 (hb hby d4_152) (pc' := 155) rfl (fun T188 X188 e188 => ?_)
      refine W.s1 (mkF m 157 #[.val (.ref ao), .val (.int xp), .val (.int xq), .val (.long ylo), .second, .val (.long yhi), .second, .val (.int xcc), .unset] [(.int xcc), (.ref zh)]) (fun _ kx_ => XS.iload X188.here hx rfl (hb hby d4_155) rfl kx_) ?_
      refine W.s1 (mkF m 159 #[.val (.ref ao), .val (.int xp), .val (.int xq), .val (.long ylo), .second, .val (.long yhi), .second, .val (.int xcc), .unset] [(.long yhi), (.int xcc), (.ref zh)]) (fun _ kx_ => XS.lload X188.here hx rfl (hb hby d4_157) rfl kx_) ?_
      refine W.stj X188 hx hZ e188 f185 kc hkc hkc8 N168 hge.2.2.2.2.2.2.2 (hb hby d4_159) (pc' := 160) rfl (fun T189 h189 L189 X189 e189 W189 fw189 N189 => ?_)
      have Z189 : n0 ≤ h189.size := Nat.le_trans Z168 (Keep.of_wr W189).1
      have f190 := f169.wr W189
      have f191 := f170.other W189 (Or.inl ho.2.2.2.2.2.2.1)
      have f192 := f171.other W189 (Or.inl ho.2.2.2.2.2.2.1)
      have f193 := f172.other W189 (Or.inl ho.2.2.2.2.2.2.1)
      have f194 := f173.other W189 (Or.inl ho.2.2.2.2.2.2.1)
      have f195 := f174.other W189 (Or.inl ho.2.2.2.2.2.2.1)
      have f196 := f175.other W189 (Or.inl ho.2.2.2.2.2.2.1)
      have f197 := f176.other W189 (Or.inl ho.2.2.2.2.2.2.1)
      have f198 := f177.other W189 (Or.inl ho.2.2.2.2.2.2.1)
      have f199 := f178.other W189 (Or.inl ho.2.2.2.2.2.2.1)
      have f200 := f179.other W189 (Or.inl ho.2.2.2.2.2.2.1)
      have f201 := f180.other W189 ho.2.2.2.2.2.2.2.2.2.2.2.2.1
      have f202 := f181.other W189 ho.2.2.2.2.2.2.2.2.2.2.2.2.2.2.2.2.2.1
      have f203 := f182.other W189 ho.2.2.2.2.2.2.2.2.2.2.2.2.2.2.2.2.2.2.2.2.2.1
      have f204 := f183.other W189 ho.2.2.2.2.2.2.2.2.2.2.2.2.2.2.2.2.2.2.2.2.2.2.2.2.1
      have f205 := f184.other W189 ho.2.2.2.2.2.2.2.2.2.2.2.2.2.2.2.2.2.2.2.2.2.2.2.2.2.2.1
      have f206 := fw168.other W189 ho.2.2.2.2.2.2.2.2.2.2.2.2.2.2.2.2.2.2.2.2.2.2.2.2.2.2.2
      have f207 := f186.other W189 nbp.2.2.2.2.2.2.2
      have f208 := f187.other W189 nbq.2.2.2.2.2.2.2
      have K189 : Keep h0 h189 [ao, zm, zt, zl, zh, zi, zd] := K168.wr W189 (Or.inl (List.mem_of_getElem? (i := 4) rfl))
      refine W.s1 (mkF m 161 #[.val (.ref ao), .val (.int xp), .val (.int xq), .val (.long ylo), .second, .val (.long yhi), .second, .val (.int xcc), .unset] [(.ref ao)]) (fun _ kx_ => XS.aloadN X189.here hx rfl (hb hby d4_160) rfl rfl kx_) ?_
      refine W.s1 (mkF m 162 #[.val (.ref ao), .val (.int xp), .val (.int xq), .val (.long ylo), .second, .val (.long yhi), .second, .val (.int xcc), .unset] [(.int xp), (.ref ao)]) (fun _ kx_ => XS.iloadN X189.here hx rfl (hb hby d4_161) rfl kx_) ?_
      refine W.s1 (mkF m 164 #[.val (.ref ao), .val (.int xp), .val (.int xq), .val (.long ylo), .second, .val (.long yhi), .second, .val (.int xcc), .unset] [(.int xcc), (.int xp), (.ref ao)]) (fun _ kx_ => XS.iload X189.here hx rfl (hb hby d4_162) rfl kx_) ?_
      have Zo164 := Z189
      have D164 : own_DG Z h189 ao zi zd zs zm zt zl zh xpc (xcc + 1) fi fs fd (W.up fl kc ylo) (W.up fh kc yhi) := ⟨_, _, f190, f191, f192, f193, f194, f195, f196, f197, f198, f199, f200, f201, f202, f203, f204, f205, f206, fw189⟩
      obtain ⟨cq209, q209, q209'⟩ := f190.cell
      obtain ⟨_, _, ⟨T209, L209, k209, n209⟩, -, X209, ⟨Lc209, hQ209, l209, y209, z209⟩, st209⟩ := X189.privateBack hx (y := (⟨"com/example/tempora/tempora/DistanceGraph", "attach", "(II)V"⟩ : MethodName)) hown (mvT hZ (hw _ (List.mem_of_getElem? (i := 54) rfl))) (mvT hZ (hw _ (List.mem_of_getElem? (i := 55) rfl))) (W.privSel hZ (hw _ (List.mem_of_getElem? (i := 6) rfl)) (hw _ (List.mem_of_getElem? (i := 56) rfl)) (hw _ (List.mem_of_getElem? (i := 55) rfl)) rfl (by decide)) (Cond.privateMethod_at (mvP hZ (hw _ (List.mem_of_getElem? (i := 56) rfl)) (args := #[]))) (mvT hZ (hw _ (List.mem_of_getElem? (i := 57) rfl))) (by decide) (backOf (W := 0) (rm5g l Z a0 hw [] ao xp xcc zi zd zs zm zt zl zh xpc (xcc + 1) fi fs fd (W.up fl kc ylo) (W.up fh kc yhi) kp zbp fbp h189 n0 Z189 D164 ho hge hkp hkp8 hfdp hfip f207) hZ (hw _ (List.mem_of_getElem? (i := 57) rfl)) (hw _ (List.mem_of_getElem? (i := 7) rfl)) (by decide) (by decide)) (g := (mkF m 164 #[.val (.ref ao), .val (.int xp), .val (.int xq), .val (.long ylo), .second, .val (.long yhi), .second, .val (.int xcc), .unset] [(.int xcc), (.int xp), (.ref ao)])) rfl (by rw [hml]; rfl) (Steps.refl _) (a := ao) (by rw [e189]; exact q209) q209' (argsL := [(.int xp), (.int xcc)]) (rest := []) (lenOf pd_2 rfl) rfl (by show 2 * 0 + _ ≤ _; exact Nat.le_of_eq rfl) (hb hby d4_164) (fun _ _ => ⟨rfl, e189, (by decide : 0 + 1 ≤ _), (by decide : 0 + 2 ≤ _)⟩)
      dsimp only [Pt.U, Pt.locs, Pt.cells, Pt.slots] at X209 l209 y209 z209 st209 hQ209
      subst l209 y209 z209
      obtain ⟨h209, e209⟩ : ∃ z, T209.heap = z := ⟨_, rfl⟩
      rw [e209] at hQ209
      obtain ⟨b1, fb1, rfl, Nq209, Kq209, hb164, Ab209, Hd209⟩ := hQ209
      have N209 := Fr.app N189 Nq209
      have Z209 : n0 ≤ h209.size := Nat.le_trans Z189 Kq209.1
      have K209 : Keep h0 h209 [ao, zm, zt, zl, zh, zi, zd] := K189.trans Kq209 (allS (Or.inl (List.mem_of_getElem? (i := 5) rfl)) (allS (Or.inl (List.mem_of_getElem? (i := 6) rfl)) all0))
      have f210 := f207.keep Kq209 (ninS nbp.2.1 (ninS nbp.2.2.1 nin0))
      have f211 := f208.keep Kq209 (ninS nbq.2.1 (ninS nbq.2.2.1 nin0))
      obtain ⟨fm164, ft164, w164e1, w164r0, w164r1, w164r2, w164r3, w164r4, w164r5, w164r6, w164i0, w164i1, w164i2, w164a0, w164a1, w164a2, w164a3, w164a4, w164a5, w164a6⟩ := Hd209
      have ne212 : ao ≠ b1 := Nat.ne_of_lt (Nat.lt_of_lt_of_le f190.lt hb164)
      have ne213 : zi ≠ b1 := Nat.ne_of_lt (Nat.lt_of_lt_of_le f201.lt hb164)
      have ne214 : zd ≠ b1 := Nat.ne_of_lt (Nat.lt_of_lt_of_le f202.lt hb164)
      have ne215 : zs ≠ b1 := Nat.ne_of_lt (Nat.lt_of_lt_of_le f203.lt hb164)
      have ne216 : zm ≠ b1 := Nat.ne_of_lt (Nat.lt_of_lt_of_le f204.lt hb164)
      have ne217 : zt ≠ b1 := Nat.ne_of_lt (Nat.lt_of_lt_of_le f205.lt hb164)
      have ne218 : zl ≠ b1 := Nat.ne_of_lt (Nat.lt_of_lt_of_le f206.lt hb164)
      have ne219 : zh ≠ b1 := Nat.ne_of_lt (Nat.lt_of_lt_of_le fw189.lt hb164)
      have ne220 : zbp ≠ b1 := Nat.ne_of_lt (Nat.lt_of_lt_of_le f207.lt hb164)
      have ne221 : zbq ≠ b1 := Nat.ne_of_lt (Nat.lt_of_lt_of_le f208.lt hb164)
      have ge222 : n0 ≤ b1 := Nat.le_trans Zo164 hb164
      have szb1 : h0.size ≤ b1 := Nat.le_trans K189.1 hb164
      refine W.s3 (mkF m 167 #[.val (.ref ao), .val (.int xp), .val (.int xq), .val (.long ylo), .second, .val (.long yhi), .second, .val (.int xcc), .unset] []) st209 ?_
      refine W.s1 (mkF m 168 #[.val (.ref ao), .val (.int xp), .val (.int xq), .val (.long ylo), .second, .val (.long yhi), .second, .val (.int xcc), .unset] [(.int xq)]) (fun _ kx_ => XS.iloadN X209.here hx rfl (hb hby d4_167) rfl kx_) ?_
      refine W.s1 (mkF m 169 #[.val (.ref ao), .val (.int xp), .val (.int xq), .val (.long ylo), .second, .val (.long yhi), .second, .val (.int xcc), .unset] [(.int xp), (.int xq)]) (fun _ kx_ => XS.iloadN X209.here hx rfl (hb hby d4_168) rfl kx_) ?_
      refine W.icmp X209 hx (hb hby d4_169) (pc' := 179) (pc'' := 172) (by decide) (by decide) rfl (fun (c169 : xq = xp) => ?_) (fun (c169 : ¬ xq = xp) => ?_)
      · exact absurd c169 hpq
      · refine W.s1 (mkF m 173 #[.val (.ref ao), .val (.int xp), .val (.int xq), .val (.long ylo), .second, .val (.long yhi), .second, .val (.int xcc), .unset] [(.ref ao)]) (fun _ kx_ => XS.aloadN X209.here hx rfl (hb hby d4_172) rfl rfl kx_) ?_
        refine W.s1 (mkF m 174 #[.val (.ref ao), .val (.int xp), .val (.int xq), .val (.long ylo), .second, .val (.long yhi), .second, .val (.int xcc), .unset] [(.int xq), (.ref ao)]) (fun _ kx_ => XS.iloadN X209.here hx rfl (hb hby d4_173) rfl kx_) ?_
        refine W.s1 (mkF m 176 #[.val (.ref ao), .val (.int xp), .val (.int xq), .val (.long ylo), .second, .val (.long yhi), .second, .val (.int xcc), .unset] [(.int xcc), (.int xq), (.ref ao)]) (fun _ kx_ => XS.iload X209.here hx rfl (hb hby d4_174) rfl kx_) ?_
        have Zo176 := Z209
        have D176 : own_DG Z h209 ao zi zd zs zm zt zl zh xpc (xcc + 1) (W.up fi kp (.ref b1)) fs (W.up fd kp 1) (W.up fl kc ylo) (W.up fh kc yhi) := ⟨_, _, w164e1, w164r0, w164r1, w164r2, w164r3, w164r4, w164r5, w164r6, w164i0, w164i1, w164i2, w164a0, w164a1, w164a2, w164a3, w164a4, w164a5, w164a6⟩
        obtain ⟨cq223, q223, q223'⟩ := w164e1.cell
        obtain ⟨_, _, ⟨T223, L223, k223, n223⟩, -, X223, ⟨Lc223, hQ223, l223, y223, z223⟩, st223⟩ := X209.privateBack hx (y := (⟨"com/example/tempora/tempora/DistanceGraph", "attach", "(II)V"⟩ : MethodName)) hown (mvT hZ (hw _ (List.mem_of_getElem? (i := 54) rfl))) (mvT hZ (hw _ (List.mem_of_getElem? (i := 55) rfl))) (W.privSel hZ (hw _ (List.mem_of_getElem? (i := 6) rfl)) (hw _ (List.mem_of_getElem? (i := 56) rfl)) (hw _ (List.mem_of_getElem? (i := 55) rfl)) rfl (by decide)) (Cond.privateMethod_at (mvP hZ (hw _ (List.mem_of_getElem? (i := 56) rfl)) (args := #[]))) (mvT hZ (hw _ (List.mem_of_getElem? (i := 57) rfl))) (by decide) (backOf (W := 0) (rm5g l Z a0 hw [] ao xq xcc zi zd zs zm zt zl zh xpc (xcc + 1) (W.up fi kp (.ref b1)) fs (W.up fd kp 1) (W.up fl kc ylo) (W.up fh kc yhi) kq zbq fbq h209 n0 Z209 D176 ho hge hkq hkq8 (by rw [W.up_other _ _ hkk]; exact hfdq) (by rw [W.up_other _ _ hkk]; exact hfiq) f211) hZ (hw _ (List.mem_of_getElem? (i := 57) rfl)) (hw _ (List.mem_of_getElem? (i := 7) rfl)) (by decide) (by decide)) (g := (mkF m 176 #[.val (.ref ao), .val (.int xp), .val (.int xq), .val (.long ylo), .second, .val (.long yhi), .second, .val (.int xcc), .unset] [(.int xcc), (.int xq), (.ref ao)])) rfl (by rw [hml]; rfl) (Steps.refl _) (a := ao) (by rw [e209]; exact q223) q223' (argsL := [(.int xq), (.int xcc)]) (rest := []) (lenOf pd_2 rfl) rfl (by show 2 * 0 + _ ≤ _; exact Nat.le_of_eq rfl) (hb hby d4_176) (fun _ _ => ⟨rfl, e209, (by decide : 1 + 1 ≤ _), (by decide : 2 + 2 ≤ _)⟩)
        dsimp only [Pt.U, Pt.locs, Pt.cells, Pt.slots] at X223 l223 y223 z223 st223 hQ223
        subst l223 y223 z223
        obtain ⟨h223, e223⟩ : ∃ z, T223.heap = z := ⟨_, rfl⟩
        rw [e223] at hQ223
        obtain ⟨b2, fb2, rfl, Nq223, Kq223, hb176, Ab223, Hd223⟩ := hQ223
        have N223 := Fr.app N209 Nq223
        have Z223 : n0 ≤ h223.size := Nat.le_trans Z209 Kq223.1
        have K223 : Keep h0 h223 [ao, zm, zt, zl, zh, zi, zd] := K209.trans Kq223 (allS (Or.inl (List.mem_of_getElem? (i := 5) rfl)) (allS (Or.inl (List.mem_of_getElem? (i := 6) rfl)) all0))
        have f224 := f211.keep Kq223 (ninS nbq.2.1 (ninS nbq.2.2.1 nin0))
        have f225 := Ab209.keep Kq223 (ninS (Ne.symm ne213) (ninS (Ne.symm ne214) nin0))
        obtain ⟨fm176, ft176, w176e1, w176r0, w176r1, w176r2, w176r3, w176r4, w176r5, w176r6, w176i0, w176i1, w176i2, w176a0, w176a1, w176a2, w176a3, w176a4, w176a5, w176a6⟩ := Hd223
        have ne226 : zbq ≠ b2 := Nat.ne_of_lt (Nat.lt_of_lt_of_le f211.lt hb176)
        have ne227 : ao ≠ b2 := Nat.ne_of_lt (Nat.lt_of_lt_of_le w164e1.lt hb176)
        have ne228 : zi ≠ b2 := Nat.ne_of_lt (Nat.lt_of_lt_of_le w164a0.lt hb176)
        have ne229 : zd ≠ b2 := Nat.ne_of_lt (Nat.lt_of_lt_of_le w164a1.lt hb176)
        have ne230 : zs ≠ b2 := Nat.ne_of_lt (Nat.lt_of_lt_of_le w164a2.lt hb176)
        have ne231 : zm ≠ b2 := Nat.ne_of_lt (Nat.lt_of_lt_of_le w164a3.lt hb176)
        have ne232 : zt ≠ b2 := Nat.ne_of_lt (Nat.lt_of_lt_of_le w164a4.lt hb176)
        have ne233 : zl ≠ b2 := Nat.ne_of_lt (Nat.lt_of_lt_of_le w164a5.lt hb176)
        have ne234 : zh ≠ b2 := Nat.ne_of_lt (Nat.lt_of_lt_of_le w164a6.lt hb176)
        have ne235 : b1 ≠ b2 := Nat.ne_of_lt (Nat.lt_of_lt_of_le Ab209.lt hb176)
        have ge236 : n0 ≤ b2 := Nat.le_trans Zo176 hb176
        have szb2 : h0.size ≤ b2 := Nat.le_trans K209.1 hb176
        refine W.s3 (mkF m 179 #[.val (.ref ao), .val (.int xp), .val (.int xq), .val (.long ylo), .second, .val (.long yhi), .second, .val (.int xcc), .unset] []) st223 ?_
        refine W.s1 (mkF m 181 #[.val (.ref ao), .val (.int xp), .val (.int xq), .val (.long ylo), .second, .val (.long yhi), .second, .val (.int xcc), .unset] [(.int xcc)]) (fun _ kx_ => XS.iload X223.here hx rfl (hb hby d4_179) rfl kx_) ?_
        exact W.retI X223 hx hlk Bd.returns (hb hby d4_181) (by show Q4a Z ao xp xq ylo yhi zi zd zs zm zt zl zh xpc xcc fi fs fd fl fh kp kq kc zbp fbp zbq fbq h0 n0 _ T223.heap _; rw [e223]; exact ⟨b1, b2, _, _, rfl, N223, K223, szb1, szb2, ne235, f225, Ab223, ⟨_, _, w176e1, w176r0, w176r1, w176r2, w176r3, w176r4, w176r5, w176r6, w176i0, w176i1, w176i2, w176a0, w176a1, w176a2, w176a3, w176a4, w176a5, w176a6⟩⟩) (by decide) (by decide)
    · exact absurd c37 (own_8 hkc hkc8)
  · exact absurd c4 (by decide)
theorem ef_4b (m : MethodId) (x0 : Addr) (x1 : Int32) (x2 : Int32) (x3 : Int64) (x4 : Int64) : entryFrame m #[(.ref x0), (.int x1), (.int x2), (.long x3), (.long x4)] 9 = mkF m 0 #[.val (.ref x0), .val (.int x1), .val (.int x2), .val (.long x3), .second, .val (.long x4), .second, .unset, .unset] [] := by first | (simp [entryFrame, mkF, argsToLocals, Value.category]; done) | rfl
def Q4b (Z : State) (ao : Addr) (xp : Int32) (xq : Int32) (ylo : Int64) (yhi : Int64) (zi : Addr) (zd : Addr) (zs : Addr) (zm : Addr) (zt : Addr) (zl : Addr) (zh : Addr) (xpc : Int32) (xcc : Int32) (fi : Nat → Value) (fs : Nat → Value) (fd : Nat → Int32) (fl : Nat → Int64) (fh : Nat → Int64) (kp : Nat) (kq : Nat) (kc : Nat) (zbp : Addr) (fbp : Nat → Int32) (h0 : Heap) (n0 : Nat) (v : Option Value) (h : Heap) (L : List Loc) : Prop := v = some (.int xcc) ∧ Fr n0 L ∧ Keep h0 h [ao, zm, zt, zl, zh, zd, zbp] ∧ own_DG Z h ao zi zd zs zm zt zl zh xpc (xcc + 1) fi fs (W.up fd kp 2) (W.up fl kc ylo) (W.up fh kc yhi)
set_option maxRecDepth 65536 in
set_option maxHeartbeats 40000000 in
theorem rm4b (l : Launch) (Z : State) (a0 : Array Value) (hw : ∀ d ∈ tables_1, d.before a0 Z = true) (ws : List Jvm.Cond) (ao : Addr) (xp : Int32) (xq : Int32) (ylo : Int64) (yhi : Int64) (zi : Addr) (zd : Addr) (zs : Addr) (zm : Addr) (zt : Addr) (zl : Addr) (zh : Addr) (xpc : Int32) (xcc : Int32) (fi : Nat → Value) (fs : Nat → Value) (fd : Nat → Int32) (fl : Nat → Int64) (fh : Nat → Int64) (kp : Nat) (kq : Nat) (kc : Nat) (zbp : Addr) (fbp : Nat → Int32) (h0 : Heap) (n0 : Nat) (Z0 : n0 ≤ h0.size) (H0 : own_DG Z h0 ao zi zd zs zm zt zl zh xpc xcc fi fs fd fl fh) (ho : own_ord ao zi zd zs zm zt zl zh) (hge : own_ge n0 ao zi zd zs zm zt zl zh) (hkp : xp.toInt = kp) (hkp8 : kp < 8) (hkq : xq.toInt = kq) (hkq8 : kq < 8) (hkc : xcc.toInt = kc) (hkc8 : kc < 8) (hfdp : fd kp = 1) (hfip : fi kp = .ref zbp) (Abp : W.AI Z h0 zbp .int 2 fbp) (nbp : own_nb zbp ao zi zd zs zm zt zl zh) (gbp : n0 ≤ zbp) (hpq : xq = xp) :
    MetFree l (⟨"com/example/tempora/tempora/DistanceGraph", "addConstraint", "(IIJJ)I"⟩ : MethodName) (head1 (Jvm.Cond.code (⟨"com/example/tempora/tempora/DistanceGraph", "addConstraint", "(IIJJ)I"⟩ : MethodName) prog_5_method_3_code 9 (some .int) :: ws) ({ frames := 1, cells := 0, slots := 0, locals := 14 } : Room)) (fun a U => a = #[(.ref ao), (.int xp), (.int xq), (.long ylo), (.long yhi)] ∧ Z.Warmed39 U.vm ∧ U.heap = h0) (fun _ _ _ _ _ => True) (fun _ U o U' => ∃ v L, o = .returned v ∧ Q4b Z ao xp xq ylo yhi zi zd zs zm zt zl zh xpc xcc fi fs fd fl fh kp kq kc zbp fbp h0 n0 v U'.heap L ∧ FrameEnd U o U' L ({ frames := 1, cells := 0, slots := 0, locals := 14 } : Room).cells ({ frames := 1, cells := 0, slots := 0, locals := 14 } : Room).slots) := by
  refine MetFree.of_bodySF (plainFor_of_name pn_0) hisR ?_
  intro p e s m args below meth c s₁ Bd hml0 hP hK
  obtain ⟨rfl, hZ, hh⟩ := hP
  have hx := Bd.exec
  have hby := Bd.bytes
  have hml : c.maxLocals = 9 := hml0
  have hown : s.vm.findClass "com/example/tempora/tempora/DistanceGraph" = some m.cls := findClass_of_methodNamed Bd.named
  have hnm := (name_of_methodNamed Bd.named Bd.method).1
  have hlk : meth.locks = false := BodyLoose.notSynchronized Bd
  have X0 : Stand p l e ({ frames := 1, cells := 0, slots := 0, locals := 14 } : Room) s m #[(.ref ao), (.int xp), (.int xq), (.long ylo), (.long yhi)] below meth c s₁ [] 0 0 := Stand.of_body Bd
  have e0 : s₁.heap = h0 := by rw [← hh, Bd.state]; rfl
  have N0 := Fr.nil n0
  show W.Gl p e below s (Q4b Z ao xp xq ylo yhi zi zd zs zm zt zl zh xpc xcc fi fs fd fl fh kp kq kc zbp fbp h0 n0) ({ frames := 1, cells := 0, slots := 0, locals := 14 } : Room).cells ({ frames := 1, cells := 0, slots := 0, locals := 14 } : Room).slots s₁ (entryFrame m #[(.ref ao), (.int xp), (.int xq), (.long ylo), (.long yhi)] 9)
  refine W.cast (ef_4b m ao xp xq ylo yhi) ?_
  have K0 : Keep h0 h0 [ao, zm, zt, zl, zh, zd, zbp] := Keep.refl h0 [ao, zm, zt, zl, zh, zd, zbp]
  obtain ⟨fm, ft, ue1, ur0, ur1, ur2, ur3, ur4, ur5, ur6, ui0, ui1, ui2, ua0, ua1, ua2, ua3, ua4, ua5, ua6⟩ := H0
  refine W.s1 (mkF m 1 #[.val (.ref ao), .val (.int xp), .val (.int xq), .val (.long ylo), .second, .val (.long yhi), .second, .unset, .unset] [(.ref ao)]) (fun _ kx_ => XS.aloadN X0.here hx rfl (hb hby d4_0) rfl rfl kx_) ?_
  refine W.getf X0 hx hZ hown (host := "") (Or.inl (hw _ (List.mem_of_getElem? (i := 50) rfl))) Via.refl e0 ui1 (hb hby d4_1) (pc' := 4) rfl (fun T101 X101 e101 => ?_)
  refine W.ifc X101 hx (hb hby d4_4) (pc' := 28) (pc'' := 7) (by decide) (by decide) rfl (fun (c4 : ¬ (0 : Int32) < (0 : Int32)) => ?_) (fun (c4 : (0 : Int32) < (0 : Int32)) => ?_)
  · refine W.s1 (mkF m 29 #[.val (.ref ao), .val (.int xp), .val (.int xq), .val (.long ylo), .second, .val (.long yhi), .second, .unset, .unset] [(.ref ao)]) (fun _ kx_ => XS.aloadN X101.here hx rfl (hb hby d4_28) rfl rfl kx_) ?_
    refine W.getf X101 hx hZ hown (host := "") (Or.inl (hw _ (List.mem_of_getElem? (i := 52) rfl))) Via.refl e101 ui2 (hb hby d4_29) (pc' := 32) rfl (fun T102 X102 e102 => ?_)
    refine W.s1 (mkF m 33 #[.val (.ref ao), .val (.int xp), .val (.int xq), .val (.long ylo), .second, .val (.long yhi), .second, .unset, .unset] [(.ref ao), (.int xcc)]) (fun _ kx_ => XS.aloadN X102.here hx rfl (hb hby d4_32) rfl rfl kx_) ?_
    refine W.getf X102 hx hZ hown (host := "") (Or.inl (hw _ (List.mem_of_getElem? (i := 27) rfl))) Via.refl e102 ur3 (hb hby d4_33) (pc' := 36) rfl (fun T103 X103 e103 => ?_)
    refine W.alen X103 hx hZ e103 ua3 (z := (8 : Int32)) rfl (hb hby d4_36) (pc' := 37) rfl ?_
    refine W.icmp X103 hx (hb hby d4_37) (pc' := 114) (pc'' := 40) (by decide) (by decide) rfl (fun (c37 : ¬ xcc = (8 : Int32)) => ?_) (fun (c37 : xcc = (8 : Int32)) => ?_)
    · refine W.s1 (mkF m 115 #[.val (.ref ao), .val (.int xp), .val (.int xq), .val (.long ylo), .second, .val (.long yhi), .second, .unset, .unset] [(.ref ao)]) (fun _ kx_ => XS.aloadN X103.here hx rfl (hb hby d4_114) rfl rfl kx_) ?_
      refine W.s1 (mkF m 116 #[.val (.ref ao), .val (.int xp), .val (.int xq), .val (.long ylo), .second, .val (.long yhi), .second, .unset, .unset] [(.ref ao), (.ref ao)]) (fun _ kx_ => XS.dup X103.here hx rfl (hb hby d4_115) rfl rfl kx_) ?_
      refine W.getf X103 hx hZ hown (host := "") (Or.inl (hw _ (List.mem_of_getElem? (i := 52) rfl))) Via.refl e103 ui2 (hb hby d4_116) (pc' := 119) rfl (fun T104 X104 e104 => ?_)
      refine W.s1 (mkF m 120 #[.val (.ref ao), .val (.int xp), .val (.int xq), .val (.long ylo), .second, .val (.long yhi), .second, .unset, .unset] [(.int xcc), (.ref ao), (.int xcc)]) (fun _ kx_ => XS.dupX1 X104.here hx rfl (hb hby d4_119) rfl rfl rfl kx_) ?_
      refine W.s1 (mkF m 121 #[.val (.ref ao), .val (.int xp), .val (.int xq), .val (.long ylo), .second, .val (.long yhi), .second, .unset, .unset] [(.int (1 : Int32)), (.int xcc), (.ref ao), (.int xcc)]) (fun _ kx_ => XS.iconst X104.here hx rfl (hb hby d4_120) kx_) ?_
      refine W.s1 (mkF m 122 #[.val (.ref ao), .val (.int xp), .val (.int xq), .val (.long ylo), .second, .val (.long yhi), .second, .unset, .unset] [(.int (xcc + (1 : Int32))), (.ref ao), (.int xcc)]) (fun _ kx_ => XS.iadd X104.here hx rfl (hb hby d4_121) rfl kx_) ?_
      refine W.putf X104 hx hZ hown (host := "") (Or.inl (hw _ (List.mem_of_getElem? (i := 52) rfl))) Via.refl e104 ui2 ue1 (Or.inl (hw _ (List.mem_of_getElem? (i := 53) rfl))) (hw _ (List.mem_of_getElem? (i := 6) rfl)) (ty := .int) (by decide) rfl rfl N0 hge.1 (hb hby d4_122) (pc' := 125) rfl (fun T105 h105 L105 X105 e105 W105 fw105 N105 => ?_)
      have Z105 : n0 ≤ h105.size := Nat.le_trans Z0 (Keep.of_wr W105).1
      have f106 := ue1.wr W105
      have f107 := ur0.other W105 (Or.inr (slot_ne (Or.inl (hw _ (List.mem_of_getElem? (i := 17) rfl))) (Or.inl (hw _ (List.mem_of_getElem? (i := 53) rfl))) (by decide) (t := (.array (.array .int))) (t' := .int) (by decide) (by decide)))
      have f108 := ur1.other W105 (Or.inr (slot_ne (Or.inl (hw _ (List.mem_of_getElem? (i := 20) rfl))) (Or.inl (hw _ (List.mem_of_getElem? (i := 53) rfl))) (by decide) (t := (.array .int)) (t' := .int) (by decide) (by decide)))
      have f109 := ur2.other W105 (Or.inr (slot_ne (Or.inl (hw _ (List.mem_of_getElem? (i := 24) rfl))) (Or.inl (hw _ (List.mem_of_getElem? (i := 53) rfl))) (by decide) (t := (.array (.object "com/example/tempora/tempora/PointStatus"))) (t' := .int) (by decide) (by decide)))
      have f110 := ur3.other W105 (Or.inr (slot_ne (Or.inl (hw _ (List.mem_of_getElem? (i := 28) rfl))) (Or.inl (hw _ (List.mem_of_getElem? (i := 53) rfl))) (by decide) (t := (.array .int)) (t' := .int) (by decide) (by decide)))
      have f111 := ur4.other W105 (Or.inr (slot_ne (Or.inl (hw _ (List.mem_of_getElem? (i := 30) rfl))) (Or.inl (hw _ (List.mem_of_getElem? (i := 53) rfl))) (by decide) (t := (.array .int)) (t' := .int) (by decide) (by decide)))
      have f112 := ur5.other W105 (Or.inr (slot_ne (Or.inl (hw _ (List.mem_of_getElem? (i := 33) rfl))) (Or.inl (hw _ (List.mem_of_getElem? (i := 53) rfl))) (by decide) (t := (.array .long)) (t' := .int) (by decide) (by decide)))
      have f113 := ur6.other W105 (Or.inr (slot_ne (Or.inl (hw _ (List.mem_of_getElem? (i := 35) rfl))) (Or.inl (hw _ (List.mem_of_getElem? (i := 53) rfl))) (by decide) (t := (.array .long)) (t' := .int) (by decide) (by decide)))
      have f114 := ui0.other W105 (Or.inr (slot_ne (Or.inl (hw _ (List.mem_of_getElem? (i := 42) rfl))) (Or.inl (hw _ (List.mem_of_getElem? (i := 53) rfl))) (by decide) (t := .int) (t' := .int) (by decide) (by decide)))
      have f115 := ui1.other W105 (Or.inr (slot_ne (Or.inl (hw _ (List.mem_of_getElem? (i := 51) rfl))) (Or.inl (hw _ (List.mem_of_getElem? (i := 53) rfl))) (by decide) (t := .int) (t' := .int) (by decide) (by decide)))
      have f116 := ua0.other W105 (Ne.symm ho.1)
      have f117 := ua1.other W105 (Ne.symm ho.2.1)
      have f118 := ua2.other W105 (Ne.symm ho.2.2.1)
      have f119 := ua3.other W105 (Ne.symm ho.2.2.2.1)
      have f120 := ua4.other W105 (Ne.symm ho.2.2.2.2.1)
      have f121 := ua5.other W105 (Ne.symm ho.2.2.2.2.2.1)
      have f122 := ua6.other W105 (Ne.symm ho.2.2.2.2.2.2.1)
      have f123 := Abp.other W105 nbp.1
      have K105 : Keep h0 h105 [ao, zm, zt, zl, zh, zd, zbp] := K0.wr W105 (Or.inl (List.mem_of_getElem? (i := 0) rfl))
      refine W.s1 (mkF m 127 #[.val (.ref ao), .val (.int xp), .val (.int xq), .val (.long ylo), .second, .val (.long yhi), .second, .val (.int xcc), .unset] []) (fun _ kx_ => XS.istore X105.here hx rfl (hb hby d4_125) rfl (l' := #[.val (.ref ao), .val (.int xp), .val (.int xq), .val (.long ylo), .second, .val (.long yhi), .second, .val (.int xcc), .unset]) rfl kx_) ?_
      refine W.s1 (mkF m 128 #[.val (.ref ao), .val (.int xp), .val (.int xq), .val (.long ylo), .second, .val (.long yhi), .second, .val (.int xcc), .unset] [(.ref ao)]) (fun _ kx_ => XS.aloadN X105.here hx rfl (hb hby d4_127) rfl rfl kx_) ?_
      refine W.getf X105 hx hZ hown (host := "") (Or.inl (hw _ (List.mem_of_getElem? (i := 27) rfl))) Via.refl e105 f110 (hb hby d4_128) (pc' := 131) rfl (fun T124 X124 e124 => ?_)
      refine W.s1 (mkF m 133 #[.val (.ref ao), .val (.int xp), .val (.int xq), .val (.long ylo), .second, .val (.long yhi), .second, .val (.int xcc), .unset] [(.int xcc), (.ref zm)]) (fun _ kx_ => XS.iload X124.here hx rfl (hb hby d4_131) rfl kx_) ?_
      refine W.s1 (mkF m 134 #[.val (.ref ao), .val (.int xp), .val (.int xq), .val (.long ylo), .second, .val (.long yhi), .second, .val (.int xcc), .unset] [(.int xp), (.int xcc), (.ref zm)]) (fun _ kx_ => XS.iloadN X124.here hx rfl (hb hby d4_133) rfl kx_) ?_
      refine W.sti X124 hx hZ e124 f119 kc hkc hkc8 N105 hge.2.2.2.2.1 (hb hby d4_134) (pc' := 135) rfl (fun T125 h125 L125 X125 e125 W125 fw125 N125 => ?_)
      have Z125 : n0 ≤ h125.size := Nat.le_trans Z105 (Keep.of_wr W125).1
      have f126 := f106.wr W125
      have f127 := f107.other W125 (Or.inl ho.2.2.2.1)
      have f128 := f108.other W125 (Or.inl ho.2.2.2.1)
      have f129 := f109.other W125 (Or.inl ho.2.2.2.1)
      have f130 := f110.other W125 (Or.inl ho.2.2.2.1)
      have f131 := f111.other W125 (Or.inl ho.2.2.2.1)
      have f132 := f112.other W125 (Or.inl ho.2.2.2.1)
      have f133 := f113.other W125 (Or.inl ho.2.2.2.1)
      have f134 := f114.other W125 (Or.inl ho.2.2.2.1)
      have f135 := f115.other W125 (Or.inl ho.2.2.2.1)
      have f136 := fw105.other W125 (Or.inl ho.2.2.2.1)
      have f137 := f116.other W125 ho.2.2.2.2.2.2.2.2.2.1
      have f138 := f117.other W125 ho.2.2.2.2.2.2.2.2.2.2.2.2.2.2.1
      have f139 := f118.other W125 ho.2.2.2.2.2.2.2.2.2.2.2.2.2.2.2.2.2.2.1
      have f140 := f120.other W125 (Ne.symm ho.2.2.2.2.2.2.2.2.2.2.2.2.2.2.2.2.2.2.2.2.2.2.1)
      have f141 := f121.other W125 (Ne.symm ho.2.2.2.2.2.2.2.2.2.2.2.2.2.2.2.2.2.2.2.2.2.2.2.1)
      have f142 := f122.other W125 (Ne.symm ho.2.2.2.2.2.2.2.2.2.2.2.2.2.2.2.2.2.2.2.2.2.2.2.2.1)
      have f143 := f123.other W125 nbp.2.2.2.2.1
      have K125 : Keep h0 h125 [ao, zm, zt, zl, zh, zd, zbp] := K105.wr W125 (Or.inl (List.mem_of_getElem? (i := 1) rfl))
      refine W.s1 (mkF m 136 #[.val (.ref ao), .val (.int xp), .val (.int xq), .val (.long ylo), .second, .val (.long yhi), .second, .val (.int xcc), .unset] [(.ref ao)]) (fun _ kx_ => XS.aloadN X125.here hx rfl (hb hby d4_135) rfl rfl kx_) ?_
      refine W.getf X125 hx hZ hown (host := "") (Or.inl (hw _ (List.mem_of_getElem? (i := 29) rfl))) Via.refl e125 f131 (hb hby d4_136) (pc' := 139) rfl (fun T144 X144 e144 => ?_)
      refine W.s1 (mkF m 141 #[.val (.ref ao), .val (.int xp), .val (.int xq), .val (.long ylo), .second, .val (.long yhi), .second, .val (.int xcc), .unset] [(.int xcc), (.ref zt)]) (fun _ kx_ => XS.iload X144.here hx rfl (hb hby d4_139) rfl kx_) ?_
      refine W.s1 (mkF m 142 #[.val (.ref ao), .val (.int xp), .val (.int xq), .val (.long ylo), .second, .val (.long yhi), .second, .val (.int xcc), .unset] [(.int xq), (.int xcc), (.ref zt)]) (fun _ kx_ => XS.iloadN X144.here hx rfl (hb hby d4_141) rfl kx_) ?_
      refine W.sti X144 hx hZ e144 f140 kc hkc hkc8 N125 hge.2.2.2.2.2.1 (hb hby d4_142) (pc' := 143) rfl (fun T145 h145 L145 X145 e145 W145 fw145 N145 => ?_)
      have Z145 : n0 ≤ h145.size := Nat.le_trans Z125 (Keep.of_wr W145).1
      have f146 := f126.wr W145
      have f147 := f127.other W145 (Or.inl ho.2.2.2.2.1)
      have f148 := f128.other W145 (Or.inl ho.2.2.2.2.1)
      have f149 := f129.other W145 (Or.inl ho.2.2.2.2.1)
      have f150 := f130.other W145 (Or.inl ho.2.2.2.2.1)
      have f151 := f131.other W145 (Or.inl ho.2.2.2.2.1)
      have f152 := f132.other W145 (Or.inl ho.2.2.2.2.1)
      have f153 := f133.other W145 (Or.inl ho.2.2.2.2.1)
      have f154 := f134.other W145 (Or.inl ho.2.2.2.2.1)
      have f155 := f135.other W145 (Or.inl ho.2.2.2.2.1)
      have f156 := f136.other W145 (Or.inl ho.2.2.2.2.1)
      have f157 := f137.other W145 ho.2.2.2.2.2.2.2.2.2.2.1
      have f158 := f138.other W145 ho.2.2.2.2.2.2.2.2.2.2.2.2.2.2.2.1
      have f159 := f139.other W145 ho.2.2.2.2.2.2.2.2.2.2.2.2.2.2.2.2.2.2.2.1
      have f160 := fw125.other W145 ho.2.2.2.2.2.2.2.2.2.2.2.2.2.2.2.2.2.2.2.2.2.2.1
      have f161 := f141.other W145 (Ne.symm ho.2.2.2.2.2.2.2.2.2.2.2.2.2.2.2.2.2.2.2.2.2.2.2.2.2.1)
      have f162 := f142.other W145 (Ne.symm ho.2.2.2.2.2.2.2.2.2.2.2.2.2.2.2.2.2.2.2.2.2.2.2.2.2.2.1)
      have f163 := f143.other W145 nbp.2.2.2.2.2.1
      have K145 : Keep h0 h145 [ao, zm, zt, zl, zh, zd, zbp] := K125.wr W145 (Or.inl (List.mem_of_getElem? (i := 2) rfl))
      refine W.s1 (mkF m 144 #[.val (.ref ao), .val (.int xp), .val (.int xq), .val (.long ylo), .second, .val (.long yhi), .second, .val (.int xcc), .unset] [(.ref ao)]) (fun _ kx_ => XS.aloadN X145.here hx rfl (hb hby d4_143) rfl rfl kx_) ?_
      refine W.getf X145 hx hZ hown (host := "") (Or.inl (hw _ (List.mem_of_getElem? (i := 32) rfl))) Via.refl e145 f152 (hb hby d4_144) (pc' := 147) rfl (fun T164 X164 e164 => ?_)
      refine W.s1 (mkF m 149 #[.val (.ref ao), .val (.int xp), .val (.int xq), .val (.long ylo), .second, .val (.long yhi), .second, .val (.int xcc), .unset] [(.int xcc), (.ref zl)]) (fun _ kx_ => XS.iload X164.here hx rfl (hb hby d4_147) rfl kx_) ?_
      refine W.s1 (mkF m 150 #[.val (.ref ao), .val (.int xp), .val (.int xq), .val (.long ylo), .second, .val (.long yhi), .second, .val (.int xcc), .unset] [(.long ylo), (.int xcc), (.ref zl)]) (fun _ kx_ => XS.lloadN X164.here hx rfl (hb hby d4_149) rfl kx_) ?_
      refine W.stj X164 hx hZ e164 f161 kc hkc hkc8 N145 hge.2.2.2.2.2.2.1 (hb hby d4_150) (pc' := 151) rfl (fun T165 h165 L165 X165 e165 W165 fw165 N165 => ?_)
      have Z165 : n0 ≤ h165.size := Nat.le_trans Z145 (Keep.of_wr W165).1
      have f166 := f146.wr W165
      have f167 := f147.other W165 (Or.inl ho.2.2.2.2.2.1)
      have f168 := f148.other W165 (Or.inl ho.2.2.2.2.2.1)
      have f169 := f149.other W165 (Or.inl ho.2.2.2.2.2.1)
      have f170 := f150.other W165 (Or.inl ho.2.2.2.2.2.1)
      have f171 := f151.other W165 (Or.inl ho.2.2.2.2.2.1)
      have f172 := f152.other W165 (Or.inl ho.2.2.2.2.2.1)
      have f173 := f153.other W165 (Or.inl ho.2.2.2.2.2.1)
      have f174 := f154.other W165 (Or.inl ho.2.2.2.2.2.1)
      have f175 := f155.other W165 (Or.inl ho.2.2.2.2.2.1)
      have f176 := f156.other W165 (Or.inl ho.2.2.2.2.2.1)
      have f177 := f157.other W165 ho.2.2.2.2.2.2.2.2.2.2.2.1
      have f178 := f158.other W165 ho.2.2.2.2.2.2.2.2.2.2.2.2.2.2.2.2.1
      have f179 := f159.other W165 ho.2.2.2.2.2.2.2.2.2.2.2.2.2.2.2.2.2.2.2.2.1
      have f180 := f160.other W165 ho.2.2.2.2.2.2.2.2.2.2.2.2.2.2.2.2.2.2.2.2.2.2.2.1
      have f181 := fw145.other W165 ho.2.2.2.2.2.2.2.2.2.2.2.2.2.2.2.2.2.2.2.2.2.2.2.2.2.1
      have f182 := f162.other W165 (Ne.symm ho.2.2.2.2.2.2.2.2.2.2.2.2.2.2.2.2.2.2.2.2.2.2.2.2.2.2.2)
      have f183 := f163.other W165 nbp.2.2.2.2.2.2.1
      have K165 : Keep h0 h165 [ao, zm, zt, zl, zh, zd, zbp] := K145.wr W165 (Or.inl (List.mem_of_getElem? (i := 3) rfl))
      refine W.s1 (mkF m 152 #[.val (.ref ao), .val (.int xp), .val (.int xq), .val (.long ylo), .second, .val (.long yhi), .second, .val (.int xcc), .unset] [(.ref ao)]) (fun _ kx_ => XS.aloadN X165.here hx rfl (hb hby d4_151) rfl rfl kx_) ?_
      refine W.getf X165 hx hZ hown (host := "") (Or.inl (hw _ (List.mem_of_getElem? (i := 34) rfl))) Via.refl e165 f173 (hb hby d4_152) (pc' := 155) rfl (fun T184 X184 e184 => ?_)
      refine W.s1 (mkF m 157 #[.val (.ref ao), .val (.int xp), .val (.int xq), .val (.long ylo), .second, .val (.long yhi), .second, .val (.int xcc), .unset] [(.int xcc), (.ref zh)]) (fun _ kx_ => XS.iload X184.here hx rfl (hb hby d4_155) rfl kx_) ?_
      refine W.s1 (mkF m 159 #[.val (.ref ao), .val (.int xp), .val (.int xq), .val (.long ylo), .second, .val (.long yhi), .second, .val (.int xcc), .unset] [(.long yhi), (.int xcc), (.ref zh)]) (fun _ kx_ => XS.lload X184.here hx rfl (hb hby d4_157) rfl kx_) ?_
      refine W.stj X184 hx hZ e184 f182 kc hkc hkc8 N165 hge.2.2.2.2.2.2.2 (hb hby d4_159) (pc' := 160) rfl (fun T185 h185 L185 X185 e185 W185 fw185 N185 => ?_)
      have Z185 : n0 ≤ h185.size := Nat.le_trans Z165 (Keep.of_wr W185).1
      have f186 := f166.wr W185
      have f187 := f167.other W185 (Or.inl ho.2.2.2.2.2.2.1)
      have f188 := f168.other W185 (Or.inl ho.2.2.2.2.2.2.1)
      have f189 := f169.other W185 (Or.inl ho.2.2.2.2.2.2.1)
      have f190 := f170.other W185 (Or.inl ho.2.2.2.2.2.2.1)
      have f191 := f171.other W185 (Or.inl ho.2.2.2.2.2.2.1)
      have f192 := f172.other W185 (Or.inl ho.2.2.2.2.2.2.1)
      have f193 := f173.other W185 (Or.inl ho.2.2.2.2.2.2.1)
      have f194 := f174.other W185 (Or.inl ho.2.2.2.2.2.2.1)
      have f195 := f175.other W185 (Or.inl ho.2.2.2.2.2.2.1)
      have f196 := f176.other W185 (Or.inl ho.2.2.2.2.2.2.1)
      have f197 := f177.other W185 ho.2.2.2.2.2.2.2.2.2.2.2.2.1
      have f198 := f178.other W185 ho.2.2.2.2.2.2.2.2.2.2.2.2.2.2.2.2.2.1
      have f199 := f179.other W185 ho.2.2.2.2.2.2.2.2.2.2.2.2.2.2.2.2.2.2.2.2.2.1
      have f200 := f180.other W185 ho.2.2.2.2.2.2.2.2.2.2.2.2.2.2.2.2.2.2.2.2.2.2.2.2.1
      have f201 := f181.other W185 ho.2.2.2.2.2.2.2.2.2.2.2.2.2.2.2.2.2.2.2.2.2.2.2.2.2.2.1
      have f202 := fw165.other W185 ho.2.2.2.2.2.2.2.2.2.2.2.2.2.2.2.2.2.2.2.2.2.2.2.2.2.2.2
      have f203 := f183.other W185 nbp.2.2.2.2.2.2.2
      have K185 : Keep h0 h185 [ao, zm, zt, zl, zh, zd, zbp] := K165.wr W185 (Or.inl (List.mem_of_getElem? (i := 4) rfl))
      refine W.s1 (mkF m 161 #[.val (.ref ao), .val (.int xp), .val (.int xq), .val (.long ylo), .second, .val (.long yhi), .second, .val (.int xcc), .unset] [(.ref ao)]) (fun _ kx_ => XS.aloadN X185.here hx rfl (hb hby d4_160) rfl rfl kx_) ?_
      refine W.s1 (mkF m 162 #[.val (.ref ao), .val (.int xp), .val (.int xq), .val (.long ylo), .second, .val (.long yhi), .second, .val (.int xcc), .unset] [(.int xp), (.ref ao)]) (fun _ kx_ => XS.iloadN X185.here hx rfl (hb hby d4_161) rfl kx_) ?_
      refine W.s1 (mkF m 164 #[.val (.ref ao), .val (.int xp), .val (.int xq), .val (.long ylo), .second, .val (.long yhi), .second, .val (.int xcc), .unset] [(.int xcc), (.int xp), (.ref ao)]) (fun _ kx_ => XS.iload X185.here hx rfl (hb hby d4_162) rfl kx_) ?_
      have Zo164 := Z185
      have D164 : own_DG Z h185 ao zi zd zs zm zt zl zh xpc (xcc + 1) fi fs fd (W.up fl kc ylo) (W.up fh kc yhi) := ⟨_, _, f186, f187, f188, f189, f190, f191, f192, f193, f194, f195, f196, f197, f198, f199, f200, f201, f202, fw185⟩
      obtain ⟨cq204, q204, q204'⟩ := f186.cell
      obtain ⟨_, _, ⟨T204, L204, k204, n204⟩, -, X204, ⟨Lc204, hQ204, l204, y204, z204⟩, st204⟩ := X185.privateBack hx (y := (⟨"com/example/tempora/tempora/DistanceGraph", "attach", "(II)V"⟩ : MethodName)) hown (mvT hZ (hw _ (List.mem_of_getElem? (i := 54) rfl))) (mvT hZ (hw _ (List.mem_of_getElem? (i := 55) rfl))) (W.privSel hZ (hw _ (List.mem_of_getElem? (i := 6) rfl)) (hw _ (List.mem_of_getElem? (i := 56) rfl)) (hw _ (List.mem_of_getElem? (i := 55) rfl)) rfl (by decide)) (Cond.privateMethod_at (mvP hZ (hw _ (List.mem_of_getElem? (i := 56) rfl)) (args := #[]))) (mvT hZ (hw _ (List.mem_of_getElem? (i := 57) rfl))) (by decide) (backOf (W := 0) (rm5n l Z a0 hw [] ao xp xcc zi zd zs zm zt zl zh xpc (xcc + 1) fi fs fd (W.up fl kc ylo) (W.up fh kc yhi) kp zbp fbp h185 n0 Z185 D164 ho hge hkp hkp8 hfdp hfip f203 nbp gbp) hZ (hw _ (List.mem_of_getElem? (i := 57) rfl)) (hw _ (List.mem_of_getElem? (i := 7) rfl)) (by decide) (by decide)) (g := (mkF m 164 #[.val (.ref ao), .val (.int xp), .val (.int xq), .val (.long ylo), .second, .val (.long yhi), .second, .val (.int xcc), .unset] [(.int xcc), (.int xp), (.ref ao)])) rfl (by rw [hml]; rfl) (Steps.refl _) (a := ao) (by rw [e185]; exact q204) q204' (argsL := [(.int xp), (.int xcc)]) (rest := []) (lenOf pd_2 rfl) rfl (by show 2 * 0 + _ ≤ _; exact Nat.le_of_eq rfl) (hb hby d4_164) (fun _ _ => ⟨rfl, e185, (by decide : 0 + 0 ≤ _), (by decide : 0 + 0 ≤ _)⟩)
      dsimp only [Pt.U, Pt.locs, Pt.cells, Pt.slots] at X204 l204 y204 z204 st204 hQ204
      subst l204 y204 z204
      obtain ⟨h204, e204⟩ : ∃ z, T204.heap = z := ⟨_, rfl⟩
      rw [e204] at hQ204
      obtain ⟨fb1, rfl, Nq204, Kq204, Ab204, Hd204⟩ := hQ204
      have N204 := Fr.app N185 Nq204
      have Z204 : n0 ≤ h204.size := Nat.le_trans Z185 Kq204.1
      have K204 : Keep h0 h204 [ao, zm, zt, zl, zh, zd, zbp] := K185.trans Kq204 (allS (Or.inl (List.mem_of_getElem? (i := 5) rfl)) (allS (Or.inl (List.mem_of_getElem? (i := 6) rfl)) all0))
      obtain ⟨fm164, ft164, w164e1, w164r0, w164r1, w164r2, w164r3, w164r4, w164r5, w164r6, w164i0, w164i1, w164i2, w164a0, w164a1, w164a2, w164a3, w164a4, w164a5, w164a6⟩ := Hd204
      refine W.s3 (mkF m 167 #[.val (.ref ao), .val (.int xp), .val (.int xq), .val (.long ylo), .second, .val (.long yhi), .second, .val (.int xcc), .unset] []) st204 ?_
      refine W.s1 (mkF m 168 #[.val (.ref ao), .val (.int xp), .val (.int xq), .val (.long ylo), .second, .val (.long yhi), .second, .val (.int xcc), .unset] [(.int xq)]) (fun _ kx_ => XS.iloadN X204.here hx rfl (hb hby d4_167) rfl kx_) ?_
      refine W.s1 (mkF m 169 #[.val (.ref ao), .val (.int xp), .val (.int xq), .val (.long ylo), .second, .val (.long yhi), .second, .val (.int xcc), .unset] [(.int xp), (.int xq)]) (fun _ kx_ => XS.iloadN X204.here hx rfl (hb hby d4_168) rfl kx_) ?_
      refine W.icmp X204 hx (hb hby d4_169) (pc' := 179) (pc'' := 172) (by decide) (by decide) rfl (fun (c169 : xq = xp) => ?_) (fun (c169 : ¬ xq = xp) => ?_)
      · refine W.s1 (mkF m 181 #[.val (.ref ao), .val (.int xp), .val (.int xq), .val (.long ylo), .second, .val (.long yhi), .second, .val (.int xcc), .unset] [(.int xcc)]) (fun _ kx_ => XS.iload X204.here hx rfl (hb hby d4_179) rfl kx_) ?_
        exact W.retI X204 hx hlk Bd.returns (hb hby d4_181) (by show Q4b Z ao xp xq ylo yhi zi zd zs zm zt zl zh xpc xcc fi fs fd fl fh kp kq kc zbp fbp h0 n0 _ T204.heap _; rw [e204]; exact ⟨rfl, N204, K204, ⟨_, _, w164e1, w164r0, w164r1, w164r2, w164r3, w164r4, w164r5, w164r6, w164i0, w164i1, w164i2, w164a0, w164a1, w164a2, w164a3, w164a4, w164a5, w164a6⟩⟩) (by decide) (by decide)
      · exact absurd hpq c169
    · exact absurd c37 (own_8 hkc hkc8)
  · exact absurd c4 (by decide)
theorem ef_4c (m : MethodId) (x0 : Addr) (x1 : Int32) (x2 : Int32) (x3 : Int64) (x4 : Int64) : entryFrame m #[(.ref x0), (.int x1), (.int x2), (.long x3), (.long x4)] 9 = mkF m 0 #[.val (.ref x0), .val (.int x1), .val (.int x2), .val (.long x3), .second, .val (.long x4), .second, .unset, .unset] [] := by first | (simp [entryFrame, mkF, argsToLocals, Value.category]; done) | rfl
def Q4c (Z : State) (ao : Addr) (xp : Int32) (xq : Int32) (ylo : Int64) (yhi : Int64) (zi : Addr) (zd : Addr) (zs : Addr) (zm : Addr) (zt : Addr) (zl : Addr) (zh : Addr) (xpc : Int32) (xcc : Int32) (fi : Nat → Value) (fs : Nat → Value) (fd : Nat → Int32) (fl : Nat → Int64) (fh : Nat → Int64) (kp : Nat) (kq : Nat) (kc : Nat) (zbp : Addr) (fbp : Nat → Int32) (zbq : Addr) (fbq : Nat → Int32) (h0 : Heap) (n0 : Nat) (v : Option Value) (h : Heap) (L : List Loc) : Prop := v = some (.int xcc) ∧ Fr n0 L ∧ Keep h0 h [ao, zm, zt, zl, zh, zd, zbp, zbq] ∧ own_DG Z h ao zi zd zs zm zt zl zh xpc (xcc + 1) fi fs (W.up (W.up fd kp 2) kq 2) (W.up fl kc ylo) (W.up fh kc yhi)
set_option maxRecDepth 65536 in
set_option maxHeartbeats 40000000 in
theorem rm4c (l : Launch) (Z : State) (a0 : Array Value) (hw : ∀ d ∈ tables_1, d.before a0 Z = true) (ws : List Jvm.Cond) (ao : Addr) (xp : Int32) (xq : Int32) (ylo : Int64) (yhi : Int64) (zi : Addr) (zd : Addr) (zs : Addr) (zm : Addr) (zt : Addr) (zl : Addr) (zh : Addr) (xpc : Int32) (xcc : Int32) (fi : Nat → Value) (fs : Nat → Value) (fd : Nat → Int32) (fl : Nat → Int64) (fh : Nat → Int64) (kp : Nat) (kq : Nat) (kc : Nat) (zbp : Addr) (fbp : Nat → Int32) (zbq : Addr) (fbq : Nat → Int32) (h0 : Heap) (n0 : Nat) (Z0 : n0 ≤ h0.size) (H0 : own_DG Z h0 ao zi zd zs zm zt zl zh xpc xcc fi fs fd fl fh) (ho : own_ord ao zi zd zs zm zt zl zh) (hge : own_ge n0 ao zi zd zs zm zt zl zh) (hkp : xp.toInt = kp) (hkp8 : kp < 8) (hkq : xq.toInt = kq) (hkq8 : kq < 8) (hkc : xcc.toInt = kc) (hkc8 : kc < 8) (hfdp : fd kp = 1) (hfip : fi kp = .ref zbp) (Abp : W.AI Z h0 zbp .int 2 fbp) (nbp : own_nb zbp ao zi zd zs zm zt zl zh) (gbp : n0 ≤ zbp) (hpq : ¬ xq = xp) (hfdq : fd kq = 1) (hfiq : fi kq = .ref zbq) (Abq : W.AI Z h0 zbq .int 2 fbq) (nbq : own_nb zbq ao zi zd zs zm zt zl zh) (gbq : n0 ≤ zbq) (npq : zbp ≠ zbq) :
    MetFree l (⟨"com/example/tempora/tempora/DistanceGraph", "addConstraint", "(IIJJ)I"⟩ : MethodName) (head1 (Jvm.Cond.code (⟨"com/example/tempora/tempora/DistanceGraph", "addConstraint", "(IIJJ)I"⟩ : MethodName) prog_5_method_3_code 9 (some .int) :: ws) ({ frames := 1, cells := 0, slots := 0, locals := 14 } : Room)) (fun a U => a = #[(.ref ao), (.int xp), (.int xq), (.long ylo), (.long yhi)] ∧ Z.Warmed39 U.vm ∧ U.heap = h0) (fun _ _ _ _ _ => True) (fun _ U o U' => ∃ v L, o = .returned v ∧ Q4c Z ao xp xq ylo yhi zi zd zs zm zt zl zh xpc xcc fi fs fd fl fh kp kq kc zbp fbp zbq fbq h0 n0 v U'.heap L ∧ FrameEnd U o U' L ({ frames := 1, cells := 0, slots := 0, locals := 14 } : Room).cells ({ frames := 1, cells := 0, slots := 0, locals := 14 } : Room).slots) := by
  refine MetFree.of_bodySF (plainFor_of_name pn_0) hisR ?_
  intro p e s m args below meth c s₁ Bd hml0 hP hK
  obtain ⟨rfl, hZ, hh⟩ := hP
  have hx := Bd.exec
  have hby := Bd.bytes
  have hml : c.maxLocals = 9 := hml0
  have hown : s.vm.findClass "com/example/tempora/tempora/DistanceGraph" = some m.cls := findClass_of_methodNamed Bd.named
  have hnm := (name_of_methodNamed Bd.named Bd.method).1
  have hlk : meth.locks = false := BodyLoose.notSynchronized Bd
  have X0 : Stand p l e ({ frames := 1, cells := 0, slots := 0, locals := 14 } : Room) s m #[(.ref ao), (.int xp), (.int xq), (.long ylo), (.long yhi)] below meth c s₁ [] 0 0 := Stand.of_body Bd
  have e0 : s₁.heap = h0 := by rw [← hh, Bd.state]; rfl
  have N0 := Fr.nil n0
  show W.Gl p e below s (Q4c Z ao xp xq ylo yhi zi zd zs zm zt zl zh xpc xcc fi fs fd fl fh kp kq kc zbp fbp zbq fbq h0 n0) ({ frames := 1, cells := 0, slots := 0, locals := 14 } : Room).cells ({ frames := 1, cells := 0, slots := 0, locals := 14 } : Room).slots s₁ (entryFrame m #[(.ref ao), (.int xp), (.int xq), (.long ylo), (.long yhi)] 9)
  refine W.cast (ef_4c m ao xp xq ylo yhi) ?_
  have K0 : Keep h0 h0 [ao, zm, zt, zl, zh, zd, zbp, zbq] := Keep.refl h0 [ao, zm, zt, zl, zh, zd, zbp, zbq]
  obtain ⟨fm, ft, ue1, ur0, ur1, ur2, ur3, ur4, ur5, ur6, ui0, ui1, ui2, ua0, ua1, ua2, ua3, ua4, ua5, ua6⟩ := H0
  have hkk : ¬ kq = kp := fun q => hpq (Int32.toInt_inj.mp (by omega))
  refine W.s1 (mkF m 1 #[.val (.ref ao), .val (.int xp), .val (.int xq), .val (.long ylo), .second, .val (.long yhi), .second, .unset, .unset] [(.ref ao)]) (fun _ kx_ => XS.aloadN X0.here hx rfl (hb hby d4_0) rfl rfl kx_) ?_
  refine W.getf X0 hx hZ hown (host := "") (Or.inl (hw _ (List.mem_of_getElem? (i := 50) rfl))) Via.refl e0 ui1 (hb hby d4_1) (pc' := 4) rfl (fun T101 X101 e101 => ?_)
  refine W.ifc X101 hx (hb hby d4_4) (pc' := 28) (pc'' := 7) (by decide) (by decide) rfl (fun (c4 : ¬ (0 : Int32) < (0 : Int32)) => ?_) (fun (c4 : (0 : Int32) < (0 : Int32)) => ?_)
  · refine W.s1 (mkF m 29 #[.val (.ref ao), .val (.int xp), .val (.int xq), .val (.long ylo), .second, .val (.long yhi), .second, .unset, .unset] [(.ref ao)]) (fun _ kx_ => XS.aloadN X101.here hx rfl (hb hby d4_28) rfl rfl kx_) ?_
    refine W.getf X101 hx hZ hown (host := "") (Or.inl (hw _ (List.mem_of_getElem? (i := 52) rfl))) Via.refl e101 ui2 (hb hby d4_29) (pc' := 32) rfl (fun T102 X102 e102 => ?_)
    refine W.s1 (mkF m 33 #[.val (.ref ao), .val (.int xp), .val (.int xq), .val (.long ylo), .second, .val (.long yhi), .second, .unset, .unset] [(.ref ao), (.int xcc)]) (fun _ kx_ => XS.aloadN X102.here hx rfl (hb hby d4_32) rfl rfl kx_) ?_
    refine W.getf X102 hx hZ hown (host := "") (Or.inl (hw _ (List.mem_of_getElem? (i := 27) rfl))) Via.refl e102 ur3 (hb hby d4_33) (pc' := 36) rfl (fun T103 X103 e103 => ?_)
    refine W.alen X103 hx hZ e103 ua3 (z := (8 : Int32)) rfl (hb hby d4_36) (pc' := 37) rfl ?_
    refine W.icmp X103 hx (hb hby d4_37) (pc' := 114) (pc'' := 40) (by decide) (by decide) rfl (fun (c37 : ¬ xcc = (8 : Int32)) => ?_) (fun (c37 : xcc = (8 : Int32)) => ?_)
    · refine W.s1 (mkF m 115 #[.val (.ref ao), .val (.int xp), .val (.int xq), .val (.long ylo), .second, .val (.long yhi), .second, .unset, .unset] [(.ref ao)]) (fun _ kx_ => XS.aloadN X103.here hx rfl (hb hby d4_114) rfl rfl kx_) ?_
      refine W.s1 (mkF m 116 #[.val (.ref ao), .val (.int xp), .val (.int xq), .val (.long ylo), .second, .val (.long yhi), .second, .unset, .unset] [(.ref ao), (.ref ao)]) (fun _ kx_ => XS.dup X103.here hx rfl (hb hby d4_115) rfl rfl kx_) ?_
      refine W.getf X103 hx hZ hown (host := "") (Or.inl (hw _ (List.mem_of_getElem? (i := 52) rfl))) Via.refl e103 ui2 (hb hby d4_116) (pc' := 119) rfl (fun T104 X104 e104 => ?_)
      refine W.s1 (mkF m 120 #[.val (.ref ao), .val (.int xp), .val (.int xq), .val (.long ylo), .second, .val (.long yhi), .second, .unset, .unset] [(.int xcc), (.ref ao), (.int xcc)]) (fun _ kx_ => XS.dupX1 X104.here hx rfl (hb hby d4_119) rfl rfl rfl kx_) ?_
      refine W.s1 (mkF m 121 #[.val (.ref ao), .val (.int xp), .val (.int xq), .val (.long ylo), .second, .val (.long yhi), .second, .unset, .unset] [(.int (1 : Int32)), (.int xcc), (.ref ao), (.int xcc)]) (fun _ kx_ => XS.iconst X104.here hx rfl (hb hby d4_120) kx_) ?_
      refine W.s1 (mkF m 122 #[.val (.ref ao), .val (.int xp), .val (.int xq), .val (.long ylo), .second, .val (.long yhi), .second, .unset, .unset] [(.int (xcc + (1 : Int32))), (.ref ao), (.int xcc)]) (fun _ kx_ => XS.iadd X104.here hx rfl (hb hby d4_121) rfl kx_) ?_
      refine W.putf X104 hx hZ hown (host := "") (Or.inl (hw _ (List.mem_of_getElem? (i := 52) rfl))) Via.refl e104 ui2 ue1 (Or.inl (hw _ (List.mem_of_getElem? (i := 53) rfl))) (hw _ (List.mem_of_getElem? (i := 6) rfl)) (ty := .int) (by decide) rfl rfl N0 hge.1 (hb hby d4_122) (pc' := 125) rfl (fun T105 h105 L105 X105 e105 W105 fw105 N105 => ?_)
      have Z105 : n0 ≤ h105.size := Nat.le_trans Z0 (Keep.of_wr W105).1
      have f106 := ue1.wr W105
      have f107 := ur0.other W105 (Or.inr (slot_ne (Or.inl (hw _ (List.mem_of_getElem? (i := 17) rfl))) (Or.inl (hw _ (List.mem_of_getElem? (i := 53) rfl))) (by decide) (t := (.array (.array .int))) (t' := .int) (by decide) (by decide)))
      have f108 := ur1.other W105 (Or.inr (slot_ne (Or.inl (hw _ (List.mem_of_getElem? (i := 20) rfl))) (Or.inl (hw _ (List.mem_of_getElem? (i := 53) rfl))) (by decide) (t := (.array .int)) (t' := .int) (by decide) (by decide)))
      have f109 := ur2.other W105 (Or.inr (slot_ne (Or.inl (hw _ (List.mem_of_getElem? (i := 24) rfl))) (Or.inl (hw _ (List.mem_of_getElem? (i := 53) rfl))) (by decide) (t := (.array (.object "com/example/tempora/tempora/PointStatus"))) (t' := .int) (by decide) (by decide)))
      have f110 := ur3.other W105 (Or.inr (slot_ne (Or.inl (hw _ (List.mem_of_getElem? (i := 28) rfl))) (Or.inl (hw _ (List.mem_of_getElem? (i := 53) rfl))) (by decide) (t := (.array .int)) (t' := .int) (by decide) (by decide)))
      have f111 := ur4.other W105 (Or.inr (slot_ne (Or.inl (hw _ (List.mem_of_getElem? (i := 30) rfl))) (Or.inl (hw _ (List.mem_of_getElem? (i := 53) rfl))) (by decide) (t := (.array .int)) (t' := .int) (by decide) (by decide)))
      have f112 := ur5.other W105 (Or.inr (slot_ne (Or.inl (hw _ (List.mem_of_getElem? (i := 33) rfl))) (Or.inl (hw _ (List.mem_of_getElem? (i := 53) rfl))) (by decide) (t := (.array .long)) (t' := .int) (by decide) (by decide)))
      have f113 := ur6.other W105 (Or.inr (slot_ne (Or.inl (hw _ (List.mem_of_getElem? (i := 35) rfl))) (Or.inl (hw _ (List.mem_of_getElem? (i := 53) rfl))) (by decide) (t := (.array .long)) (t' := .int) (by decide) (by decide)))
      have f114 := ui0.other W105 (Or.inr (slot_ne (Or.inl (hw _ (List.mem_of_getElem? (i := 42) rfl))) (Or.inl (hw _ (List.mem_of_getElem? (i := 53) rfl))) (by decide) (t := .int) (t' := .int) (by decide) (by decide)))
      have f115 := ui1.other W105 (Or.inr (slot_ne (Or.inl (hw _ (List.mem_of_getElem? (i := 51) rfl))) (Or.inl (hw _ (List.mem_of_getElem? (i := 53) rfl))) (by decide) (t := .int) (t' := .int) (by decide) (by decide)))
      have f116 := ua0.other W105 (Ne.symm ho.1)
      have f117 := ua1.other W105 (Ne.symm ho.2.1)
      have f118 := ua2.other W105 (Ne.symm ho.2.2.1)
      have f119 := ua3.other W105 (Ne.symm ho.2.2.2.1)
      have f120 := ua4.other W105 (Ne.symm ho.2.2.2.2.1)
      have f121 := ua5.other W105 (Ne.symm ho.2.2.2.2.2.1)
      have f122 := ua6.other W105 (Ne.symm ho.2.2.2.2.2.2.1)
      have f123 := Abp.other W105 nbp.1
      have f124 := Abq.other W105 nbq.1
      have K105 : Keep h0 h105 [ao, zm, zt, zl, zh, zd, zbp, zbq] := K0.wr W105 (Or.inl (List.mem_of_getElem? (i := 0) rfl))
      refine W.s1 (mkF m 127 #[.val (.ref ao), .val (.int xp), .val (.int xq), .val (.long ylo), .second, .val (.long yhi), .second, .val (.int xcc), .unset] []) (fun _ kx_ => XS.istore X105.here hx rfl (hb hby d4_125) rfl (l' := #[.val (.ref ao), .val (.int xp), .val (.int xq), .val (.long ylo), .second, .val (.long yhi), .second, .val (.int xcc), .unset]) rfl kx_) ?_
      refine W.s1 (mkF m 128 #[.val (.ref ao), .val (.int xp), .val (.int xq), .val (.long ylo), .second, .val (.long yhi), .second, .val (.int xcc), .unset] [(.ref ao)]) (fun _ kx_ => XS.aloadN X105.here hx rfl (hb hby d4_127) rfl rfl kx_) ?_
      refine W.getf X105 hx hZ hown (host := "") (Or.inl (hw _ (List.mem_of_getElem? (i := 27) rfl))) Via.refl e105 f110 (hb hby d4_128) (pc' := 131) rfl (fun T125 X125 e125 => ?_)
      refine W.s1 (mkF m 133 #[.val (.ref ao), .val (.int xp), .val (.int xq), .val (.long ylo), .second, .val (.long yhi), .second, .val (.int xcc), .unset] [(.int xcc), (.ref zm)]) (fun _ kx_ => XS.iload X125.here hx rfl (hb hby d4_131) rfl kx_) ?_
      refine W.s1 (mkF m 134 #[.val (.ref ao), .val (.int xp), .val (.int xq), .val (.long ylo), .second, .val (.long yhi), .second, .val (.int xcc), .unset] [(.int xp), (.int xcc), (.ref zm)]) (fun _ kx_ => XS.iloadN X125.here hx rfl (hb hby d4_133) rfl kx_) ?_
      refine W.sti X125 hx hZ e125 f119 kc hkc hkc8 N105 hge.2.2.2.2.1 (hb hby d4_134) (pc' := 135) rfl (fun T126 h126 L126 X126 e126 W126 fw126 N126 => ?_)
      have Z126 : n0 ≤ h126.size := Nat.le_trans Z105 (Keep.of_wr W126).1
      have f127 := f106.wr W126
      have f128 := f107.other W126 (Or.inl ho.2.2.2.1)
      have f129 := f108.other W126 (Or.inl ho.2.2.2.1)
      have f130 := f109.other W126 (Or.inl ho.2.2.2.1)
      have f131 := f110.other W126 (Or.inl ho.2.2.2.1)
      have f132 := f111.other W126 (Or.inl ho.2.2.2.1)
      have f133 := f112.other W126 (Or.inl ho.2.2.2.1)
      have f134 := f113.other W126 (Or.inl ho.2.2.2.1)
      have f135 := f114.other W126 (Or.inl ho.2.2.2.1)
      have f136 := f115.other W126 (Or.inl ho.2.2.2.1)
      have f137 := fw105.other W126 (Or.inl ho.2.2.2.1)
      have f138 := f116.other W126 ho.2.2.2.2.2.2.2.2.2.1
      have f139 := f117.other W126 ho.2.2.2.2.2.2.2.2.2.2.2.2.2.2.1
      have f140 := f118.other W126 ho.2.2.2.2.2.2.2.2.2.2.2.2.2.2.2.2.2.2.1
      have f141 := f120.other W126 (Ne.symm ho.2.2.2.2.2.2.2.2.2.2.2.2.2.2.2.2.2.2.2.2.2.2.1)
      have f142 := f121.other W126 (Ne.symm ho.2.2.2.2.2.2.2.2.2.2.2.2.2.2.2.2.2.2.2.2.2.2.2.1)
      have f143 := f122.other W126 (Ne.symm ho.2.2.2.2.2.2.2.2.2.2.2.2.2.2.2.2.2.2.2.2.2.2.2.2.1)
      have f144 := f123.other W126 nbp.2.2.2.2.1
      have f145 := f124.other W126 nbq.2.2.2.2.1
      have K126 : Keep h0 h126 [ao, zm, zt, zl, zh, zd, zbp, zbq] := K105.wr W126 (Or.inl (List.mem_of_getElem? (i := 1) rfl))
      refine W.s1 (mkF m 136 #[.val (.ref ao), .val (.int xp), .val (.int xq), .val (.long ylo), .second, .val (.long yhi), .second, .val (.int xcc), .unset] [(.ref ao)]) (fun _ kx_ => XS.aloadN X126.here hx rfl (hb hby d4_135) rfl rfl kx_) ?_
      refine W.getf X126 hx hZ hown (host := "") (Or.inl (hw _ (List.mem_of_getElem? (i := 29) rfl))) Via.refl e126 f132 (hb hby d4_136) (pc' := 139) rfl (fun T146 X146 e146 => ?_)
      refine W.s1 (mkF m 141 #[.val (.ref ao), .val (.int xp), .val (.int xq), .val (.long ylo), .second, .val (.long yhi), .second, .val (.int xcc), .unset] [(.int xcc), (.ref zt)]) (fun _ kx_ => XS.iload X146.here hx rfl (hb hby d4_139) rfl kx_) ?_
      refine W.s1 (mkF m 142 #[.val (.ref ao), .val (.int xp), .val (.int xq), .val (.long ylo), .second, .val (.long yhi), .second, .val (.int xcc), .unset] [(.int xq), (.int xcc), (.ref zt)]) (fun _ kx_ => XS.iloadN X146.here hx rfl (hb hby d4_141) rfl kx_) ?_
      refine W.sti X146 hx hZ e146 f141 kc hkc hkc8 N126 hge.2.2.2.2.2.1 (hb hby d4_142) (pc' := 143) rfl (fun T147 h147 L147 X147 e147 W147 fw147 N147 => ?_)
      have Z147 : n0 ≤ h147.size := Nat.le_trans Z126 (Keep.of_wr W147).1
      have f148 := f127.wr W147
      have f149 := f128.other W147 (Or.inl ho.2.2.2.2.1)
      have f150 := f129.other W147 (Or.inl ho.2.2.2.2.1)
      have f151 := f130.other W147 (Or.inl ho.2.2.2.2.1)
      have f152 := f131.other W147 (Or.inl ho.2.2.2.2.1)
      have f153 := f132.other W147 (Or.inl ho.2.2.2.2.1)
      have f154 := f133.other W147 (Or.inl ho.2.2.2.2.1)
      have f155 := f134.other W147 (Or.inl ho.2.2.2.2.1)
      have f156 := f135.other W147 (Or.inl ho.2.2.2.2.1)
      have f157 := f136.other W147 (Or.inl ho.2.2.2.2.1)
      have f158 := f137.other W147 (Or.inl ho.2.2.2.2.1)
      have f159 := f138.other W147 ho.2.2.2.2.2.2.2.2.2.2.1
      have f160 := f139.other W147 ho.2.2.2.2.2.2.2.2.2.2.2.2.2.2.2.1
      have f161 := f140.other W147 ho.2.2.2.2.2.2.2.2.2.2.2.2.2.2.2.2.2.2.2.1
      have f162 := fw126.other W147 ho.2.2.2.2.2.2.2.2.2.2.2.2.2.2.2.2.2.2.2.2.2.2.1
      have f163 := f142.other W147 (Ne.symm ho.2.2.2.2.2.2.2.2.2.2.2.2.2.2.2.2.2.2.2.2.2.2.2.2.2.1)
      have f164 := f143.other W147 (Ne.symm ho.2.2.2.2.2.2.2.2.2.2.2.2.2.2.2.2.2.2.2.2.2.2.2.2.2.2.1)
      have f165 := f144.other W147 nbp.2.2.2.2.2.1
      have f166 := f145.other W147 nbq.2.2.2.2.2.1
      have K147 : Keep h0 h147 [ao, zm, zt, zl, zh, zd, zbp, zbq] := K126.wr W147 (Or.inl (List.mem_of_getElem? (i := 2) rfl))
      refine W.s1 (mkF m 144 #[.val (.ref ao), .val (.int xp), .val (.int xq), .val (.long ylo), .second, .val (.long yhi), .second, .val (.int xcc), .unset] [(.ref ao)]) (fun _ kx_ => XS.aloadN X147.here hx rfl (hb hby d4_143) rfl rfl kx_) ?_
      refine W.getf X147 hx hZ hown (host := "") (Or.inl (hw _ (List.mem_of_getElem? (i := 32) rfl))) Via.refl e147 f154 (hb hby d4_144) (pc' := 147) rfl (fun T167 X167 e167 => ?_)
      refine W.s1 (mkF m 149 #[.val (.ref ao), .val (.int xp), .val (.int xq), .val (.long ylo), .second, .val (.long yhi), .second, .val (.int xcc), .unset] [(.int xcc), (.ref zl)]) (fun _ kx_ => XS.iload X167.here hx rfl (hb hby d4_147) rfl kx_) ?_
      refine W.s1 (mkF m 150 #[.val (.ref ao), .val (.int xp), .val (.int xq), .val (.long ylo), .second, .val (.long yhi), .second, .val (.int xcc), .unset] [(.long ylo), (.int xcc), (.ref zl)]) (fun _ kx_ => XS.lloadN X167.here hx rfl (hb hby d4_149) rfl kx_) ?_
      refine W.stj X167 hx hZ e167 f163 kc hkc hkc8 N147 hge.2.2.2.2.2.2.1 (hb hby d4_150) (pc' := 151) rfl (fun T168 h168 L168 X168 e168 W168 fw168 N168 => ?_)
      have Z168 : n0 ≤ h168.size := Nat.le_trans Z147 (Keep.of_wr W168).1
      have f169 := f148.wr W168
      have f170 := f149.other W168 (Or.inl ho.2.2.2.2.2.1)
      have f171 := f150.other W168 (Or.inl ho.2.2.2.2.2.1)
      have f172 := f151.other W168 (Or.inl ho.2.2.2.2.2.1)
      have f173 := f152.other W168 (Or.inl ho.2.2.2.2.2.1)
      have f174 := f153.other W168 (Or.inl ho.2.2.2.2.2.1)
      have f175 := f154.other W168 (Or.inl ho.2.2.2.2.2.1)
      have f176 := f155.other W168 (Or.inl ho.2.2.2.2.2.1)
      have f177 := f156.other W168 (Or.inl ho.2.2.2.2.2.1)
      have f178 := f157.other W168 (Or.inl ho.2.2.2.2.2.1)
      have f179 := f158.other W168 (Or.inl ho.2.2.2.2.2.1)
      have f180 := f159.other W168 ho.2.2.2.2.2.2.2.2.2.2.2.1
      have f181 := f160.other W168 ho.2.2.2.2.2.2.2.2.2.2.2.2.2.2.2.2.1
      have f182 := f161.other W168 ho.2.2.2.2.2.2.2.2.2.2.2.2.2.2.2.2.2.2.2.2.1
      have f183 := f162.other W168 ho.2.2.2.2.2.2.2.2.2.2.2.2.2.2.2.2.2.2.2.2.2.2.2.1
      have f184 := fw147.other W168 ho.2.2.2.2.2.2.2.2.2.2.2.2.2.2.2.2.2.2.2.2.2.2.2.2.2.1
      have f185 := f164.other W168 (Ne.symm ho.2.2.2.2.2.2.2.2.2.2.2.2.2.2.2.2.2.2.2.2.2.2.2.2.2.2.2)
      have f186 := f165.other W168 nbp.2.2.2.2.2.2.1
      have f187 := f166.other W168 nbq.2.2.2.2.2.2.1
      have K168 : Keep h0 h168 [ao, zm, zt, zl, zh, zd, zbp, zbq] := K147.wr W168 (Or.inl (List.mem_of_getElem? (i := 3) rfl))
      refine W.s1 (mkF m 152 #[.val (.ref ao), .val (.int xp), .val (.int xq), .val (.long ylo), .second, .val (.long yhi), .second, .val (.int xcc), .unset] [(.ref ao)]) (fun _ kx_ => XS.aloadN X168.here hx rfl (hb hby d4_151) rfl rfl kx_) ?_
      refine W.getf X168 hx hZ hown (host := "") (Or.inl (hw _ (List.mem_of_getElem? (i := 34) rfl))) Via.refl e168 f176 (hb hby d4_152) (pc' := 155) rfl (fun T188 X188 e188 => ?_)
      refine W.s1 (mkF m 157 #[.val (.ref ao), .val (.int xp), .val (.int xq), .val (.long ylo), .second, .val (.long yhi), .second, .val (.int xcc), .unset] [(.int xcc), (.ref zh)]) (fun _ kx_ => XS.iload X188.here hx rfl (hb hby d4_155) rfl kx_) ?_
      refine W.s1 (mkF m 159 #[.val (.ref ao), .val (.int xp), .val (.int xq), .val (.long ylo), .second, .val (.long yhi), .second, .val (.int xcc), .unset] [(.long yhi), (.int xcc), (.ref zh)]) (fun _ kx_ => XS.lload X188.here hx rfl (hb hby d4_157) rfl kx_) ?_
      refine W.stj X188 hx hZ e188 f185 kc hkc hkc8 N168 hge.2.2.2.2.2.2.2 (hb hby d4_159) (pc' := 160) rfl (fun T189 h189 L189 X189 e189 W189 fw189 N189 => ?_)
      have Z189 : n0 ≤ h189.size := Nat.le_trans Z168 (Keep.of_wr W189).1
      have f190 := f169.wr W189
      have f191 := f170.other W189 (Or.inl ho.2.2.2.2.2.2.1)
      have f192 := f171.other W189 (Or.inl ho.2.2.2.2.2.2.1)
      have f193 := f172.other W189 (Or.inl ho.2.2.2.2.2.2.1)
      have f194 := f173.other W189 (Or.inl ho.2.2.2.2.2.2.1)
      have f195 := f174.other W189 (Or.inl ho.2.2.2.2.2.2.1)
      have f196 := f175.other W189 (Or.inl ho.2.2.2.2.2.2.1)
      have f197 := f176.other W189 (Or.inl ho.2.2.2.2.2.2.1)
      have f198 := f177.other W189 (Or.inl ho.2.2.2.2.2.2.1)
      have f199 := f178.other W189 (Or.inl ho.2.2.2.2.2.2.1)
      have f200 := f179.other W189 (Or.inl ho.2.2.2.2.2.2.1)
      have f201 := f180.other W189 ho.2.2.2.2.2.2.2.2.2.2.2.2.1
      have f202 := f181.other W189 ho.2.2.2.2.2.2.2.2.2.2.2.2.2.2.2.2.2.1
      have f203 := f182.other W189 ho.2.2.2.2.2.2.2.2.2.2.2.2.2.2.2.2.2.2.2.2.2.1
      have f204 := f183.other W189 ho.2.2.2.2.2.2.2.2.2.2.2.2.2.2.2.2.2.2.2.2.2.2.2.2.1
      have f205 := f184.other W189 ho.2.2.2.2.2.2.2.2.2.2.2.2.2.2.2.2.2.2.2.2.2.2.2.2.2.2.1
      have f206 := fw168.other W189 ho.2.2.2.2.2.2.2.2.2.2.2.2.2.2.2.2.2.2.2.2.2.2.2.2.2.2.2
      have f207 := f186.other W189 nbp.2.2.2.2.2.2.2
      have f208 := f187.other W189 nbq.2.2.2.2.2.2.2
      have K189 : Keep h0 h189 [ao, zm, zt, zl, zh, zd, zbp, zbq] := K168.wr W189 (Or.inl (List.mem_of_getElem? (i := 4) rfl))
      refine W.s1 (mkF m 161 #[.val (.ref ao), .val (.int xp), .val (.int xq), .val (.long ylo), .second, .val (.long yhi), .second, .val (.int xcc), .unset] [(.ref ao)]) (fun _ kx_ => XS.aloadN X189.here hx rfl (hb hby d4_160) rfl rfl kx_) ?_
      refine W.s1 (mkF m 162 #[.val (.ref ao), .val (.int xp), .val (.int xq), .val (.long ylo), .second, .val (.long yhi), .second, .val (.int xcc), .unset] [(.int xp), (.ref ao)]) (fun _ kx_ => XS.iloadN X189.here hx rfl (hb hby d4_161) rfl kx_) ?_
      refine W.s1 (mkF m 164 #[.val (.ref ao), .val (.int xp), .val (.int xq), .val (.long ylo), .second, .val (.long yhi), .second, .val (.int xcc), .unset] [(.int xcc), (.int xp), (.ref ao)]) (fun _ kx_ => XS.iload X189.here hx rfl (hb hby d4_162) rfl kx_) ?_
      have Zo164 := Z189
      have D164 : own_DG Z h189 ao zi zd zs zm zt zl zh xpc (xcc + 1) fi fs fd (W.up fl kc ylo) (W.up fh kc yhi) := ⟨_, _, f190, f191, f192, f193, f194, f195, f196, f197, f198, f199, f200, f201, f202, f203, f204, f205, f206, fw189⟩
      obtain ⟨cq209, q209, q209'⟩ := f190.cell
      obtain ⟨_, _, ⟨T209, L209, k209, n209⟩, -, X209, ⟨Lc209, hQ209, l209, y209, z209⟩, st209⟩ := X189.privateBack hx (y := (⟨"com/example/tempora/tempora/DistanceGraph", "attach", "(II)V"⟩ : MethodName)) hown (mvT hZ (hw _ (List.mem_of_getElem? (i := 54) rfl))) (mvT hZ (hw _ (List.mem_of_getElem? (i := 55) rfl))) (W.privSel hZ (hw _ (List.mem_of_getElem? (i := 6) rfl)) (hw _ (List.mem_of_getElem? (i := 56) rfl)) (hw _ (List.mem_of_getElem? (i := 55) rfl)) rfl (by decide)) (Cond.privateMethod_at (mvP hZ (hw _ (List.mem_of_getElem? (i := 56) rfl)) (args := #[]))) (mvT hZ (hw _ (List.mem_of_getElem? (i := 57) rfl))) (by decide) (backOf (W := 0) (rm5n l Z a0 hw [] ao xp xcc zi zd zs zm zt zl zh xpc (xcc + 1) fi fs fd (W.up fl kc ylo) (W.up fh kc yhi) kp zbp fbp h189 n0 Z189 D164 ho hge hkp hkp8 hfdp hfip f207 nbp gbp) hZ (hw _ (List.mem_of_getElem? (i := 57) rfl)) (hw _ (List.mem_of_getElem? (i := 7) rfl)) (by decide) (by decide)) (g := (mkF m 164 #[.val (.ref ao), .val (.int xp), .val (.int xq), .val (.long ylo), .second, .val (.long yhi), .second, .val (.int xcc), .unset] [(.int xcc), (.int xp), (.ref ao)])) rfl (by rw [hml]; rfl) (Steps.refl _) (a := ao) (by rw [e189]; exact q209) q209' (argsL := [(.int xp), (.int xcc)]) (rest := []) (lenOf pd_2 rfl) rfl (by show 2 * 0 + _ ≤ _; exact Nat.le_of_eq rfl) (hb hby d4_164) (fun _ _ => ⟨rfl, e189, (by decide : 0 + 0 ≤ _), (by decide : 0 + 0 ≤ _)⟩)
      dsimp only [Pt.U, Pt.locs, Pt.cells, Pt.slots] at X209 l209 y209 z209 st209 hQ209
      subst l209 y209 z209
      obtain ⟨h209, e209⟩ : ∃ z, T209.heap = z := ⟨_, rfl⟩
      rw [e209] at hQ209
      obtain ⟨fb1, rfl, Nq209, Kq209, Ab209, Hd209⟩ := hQ209
      have N209 := Fr.app N189 Nq209
      have Z209 : n0 ≤ h209.size := Nat.le_trans Z189 Kq209.1
      have K209 : Keep h0 h209 [ao, zm, zt, zl, zh, zd, zbp, zbq] := K189.trans Kq209 (allS (Or.inl (List.mem_of_getElem? (i := 5) rfl)) (allS (Or.inl (List.mem_of_getElem? (i := 6) rfl)) all0))
      have f211 := f208.keep Kq209 (ninS nbq.2.2.1 (ninS (Ne.symm npq) nin0))
      obtain ⟨fm164, ft164, w164e1, w164r0, w164r1, w164r2, w164r3, w164r4, w164r5, w164r6, w164i0, w164i1, w164i2, w164a0, w164a1, w164a2, w164a3, w164a4, w164a5, w164a6⟩ := Hd209
      refine W.s3 (mkF m 167 #[.val (.ref ao), .val (.int xp), .val (.int xq), .val (.long ylo), .second, .val (.long yhi), .second, .val (.int xcc), .unset] []) st209 ?_
      refine W.s1 (mkF m 168 #[.val (.ref ao), .val (.int xp), .val (.int xq), .val (.long ylo), .second, .val (.long yhi), .second, .val (.int xcc), .unset] [(.int xq)]) (fun _ kx_ => XS.iloadN X209.here hx rfl (hb hby d4_167) rfl kx_) ?_
      refine W.s1 (mkF m 169 #[.val (.ref ao), .val (.int xp), .val (.int xq), .val (.long ylo), .second, .val (.long yhi), .second, .val (.int xcc), .unset] [(.int xp), (.int xq)]) (fun _ kx_ => XS.iloadN X209.here hx rfl (hb hby d4_168) rfl kx_) ?_
      refine W.icmp X209 hx (hb hby d4_169) (pc' := 179) (pc'' := 172) (by decide) (by decide) rfl (fun (c169 : xq = xp) => ?_) (fun (c169 : ¬ xq = xp) => ?_)
      · exact absurd c169 hpq
      · refine W.s1 (mkF m 173 #[.val (.ref ao), .val (.int xp), .val (.int xq), .val (.long ylo), .second, .val (.long yhi), .second, .val (.int xcc), .unset] [(.ref ao)]) (fun _ kx_ => XS.aloadN X209.here hx rfl (hb hby d4_172) rfl rfl kx_) ?_
        refine W.s1 (mkF m 174 #[.val (.ref ao), .val (.int xp), .val (.int xq), .val (.long ylo), .second, .val (.long yhi), .second, .val (.int xcc), .unset] [(.int xq), (.ref ao)]) (fun _ kx_ => XS.iloadN X209.here hx rfl (hb hby d4_173) rfl kx_) ?_
        refine W.s1 (mkF m 176 #[.val (.ref ao), .val (.int xp), .val (.int xq), .val (.long ylo), .second, .val (.long yhi), .second, .val (.int xcc), .unset] [(.int xcc), (.int xq), (.ref ao)]) (fun _ kx_ => XS.iload X209.here hx rfl (hb hby d4_174) rfl kx_) ?_
        have Zo176 := Z209
        have D176 : own_DG Z h209 ao zi zd zs zm zt zl zh xpc (xcc + 1) fi fs (W.up fd kp 2) (W.up fl kc ylo) (W.up fh kc yhi) := ⟨_, _, w164e1, w164r0, w164r1, w164r2, w164r3, w164r4, w164r5, w164r6, w164i0, w164i1, w164i2, w164a0, w164a1, w164a2, w164a3, w164a4, w164a5, w164a6⟩
        obtain ⟨cq212, q212, q212'⟩ := w164e1.cell
        obtain ⟨_, _, ⟨T212, L212, k212, n212⟩, -, X212, ⟨Lc212, hQ212, l212, y212, z212⟩, st212⟩ := X209.privateBack hx (y := (⟨"com/example/tempora/tempora/DistanceGraph", "attach", "(II)V"⟩ : MethodName)) hown (mvT hZ (hw _ (List.mem_of_getElem? (i := 54) rfl))) (mvT hZ (hw _ (List.mem_of_getElem? (i := 55) rfl))) (W.privSel hZ (hw _ (List.mem_of_getElem? (i := 6) rfl)) (hw _ (List.mem_of_getElem? (i := 56) rfl)) (hw _ (List.mem_of_getElem? (i := 55) rfl)) rfl (by decide)) (Cond.privateMethod_at (mvP hZ (hw _ (List.mem_of_getElem? (i := 56) rfl)) (args := #[]))) (mvT hZ (hw _ (List.mem_of_getElem? (i := 57) rfl))) (by decide) (backOf (W := 0) (rm5n l Z a0 hw [] ao xq xcc zi zd zs zm zt zl zh xpc (xcc + 1) fi fs (W.up fd kp 2) (W.up fl kc ylo) (W.up fh kc yhi) kq zbq fbq h209 n0 Z209 D176 ho hge hkq hkq8 (by rw [W.up_other _ _ hkk]; exact hfdq) hfiq f211 nbq gbq) hZ (hw _ (List.mem_of_getElem? (i := 57) rfl)) (hw _ (List.mem_of_getElem? (i := 7) rfl)) (by decide) (by decide)) (g := (mkF m 176 #[.val (.ref ao), .val (.int xp), .val (.int xq), .val (.long ylo), .second, .val (.long yhi), .second, .val (.int xcc), .unset] [(.int xcc), (.int xq), (.ref ao)])) rfl (by rw [hml]; rfl) (Steps.refl _) (a := ao) (by rw [e209]; exact q212) q212' (argsL := [(.int xq), (.int xcc)]) (rest := []) (lenOf pd_2 rfl) rfl (by show 2 * 0 + _ ≤ _; exact Nat.le_of_eq rfl) (hb hby d4_176) (fun _ _ => ⟨rfl, e209, (by decide : 0 + 0 ≤ _), (by decide : 0 + 0 ≤ _)⟩)
        dsimp only [Pt.U, Pt.locs, Pt.cells, Pt.slots] at X212 l212 y212 z212 st212 hQ212
        subst l212 y212 z212
        obtain ⟨h212, e212⟩ : ∃ z, T212.heap = z := ⟨_, rfl⟩
        rw [e212] at hQ212
        obtain ⟨fb2, rfl, Nq212, Kq212, Ab212, Hd212⟩ := hQ212
        have N212 := Fr.app N209 Nq212
        have Z212 : n0 ≤ h212.size := Nat.le_trans Z209 Kq212.1
        have K212 : Keep h0 h212 [ao, zm, zt, zl, zh, zd, zbp, zbq] := K209.trans Kq212 (allS (Or.inl (List.mem_of_getElem? (i := 5) rfl)) (allS (Or.inl (List.mem_of_getElem? (i := 7) rfl)) all0))
        have f214 := Ab209.keep Kq212 (ninS nbp.2.2.1 (ninS npq nin0))
        obtain ⟨fm176, ft176, w176e1, w176r0, w176r1, w176r2, w176r3, w176r4, w176r5, w176r6, w176i0, w176i1, w176i2, w176a0, w176a1, w176a2, w176a3, w176a4, w176a5, w176a6⟩ := Hd212
        refine W.s3 (mkF m 179 #[.val (.ref ao), .val (.int xp), .val (.int xq), .val (.long ylo), .second, .val (.long yhi), .second, .val (.int xcc), .unset] []) st212 ?_
        refine W.s1 (mkF m 181 #[.val (.ref ao), .val (.int xp), .val (.int xq), .val (.long ylo), .second, .val (.long yhi), .second, .val (.int xcc), .unset] [(.int xcc)]) (fun _ kx_ => XS.iload X212.here hx rfl (hb hby d4_179) rfl kx_) ?_
        exact W.retI X212 hx hlk Bd.returns (hb hby d4_181) (by show Q4c Z ao xp xq ylo yhi zi zd zs zm zt zl zh xpc xcc fi fs fd fl fh kp kq kc zbp fbp zbq fbq h0 n0 _ T212.heap _; rw [e212]; exact ⟨rfl, N212, K212, ⟨_, _, w176e1, w176r0, w176r1, w176r2, w176r3, w176r4, w176r5, w176r6, w176i0, w176i1, w176i2, w176a0, w176a1, w176a2, w176a3, w176a4, w176a5, w176a6⟩⟩) (by decide) (by decide)
    · exact absurd c37 (own_8 hkc hkc8)
  · exact absurd c4 (by decide)
theorem ef_9 (m : MethodId) (x0 : Addr) (x1 : Int32) (x2 : Int32) : entryFrame m #[(.ref x0), (.int x1), (.int x2)] 3 = mkF m 0 #[.val (.ref x0), .val (.int x1), .val (.int x2)] [] := by first | (simp [entryFrame, mkF, argsToLocals, Value.category]; done) | rfl
theorem d9_0 : decode prog_5_method_17_code 0 = .ok (.iload_n 2, 1) := by decide +kernel
theorem d9_1 : decode prog_5_method_17_code 1 = .ok (.ifCond .eq 10, 3) := by decide +kernel
theorem d9_11 : decode prog_5_method_17_code 11 = .ok (.aload_n 0, 1) := by decide +kernel
theorem d9_12 : decode prog_5_method_17_code 12 = .ok (.getfield 33, 3) := by decide +kernel
theorem d9_15 : decode prog_5_method_17_code 15 = .ok (.iload_n 1, 1) := by decide +kernel
theorem d9_16 : decode prog_5_method_17_code 16 = .ok (.laload, 1) := by decide +kernel
theorem d9_17 : decode prog_5_method_17_code 17 = .ok (.ldc2_w 90, 3) := by decide +kernel
theorem d9_20 : decode prog_5_method_17_code 20 = .ok (.lcmp, 1) := by decide +kernel
theorem d9_21 : decode prog_5_method_17_code 21 = .ok (.ifCond .ne 9, 3) := by decide +kernel
theorem d9_30 : decode prog_5_method_17_code 30 = .ok (.aload_n 0, 1) := by decide +kernel
theorem d9_31 : decode prog_5_method_17_code 31 = .ok (.getfield 33, 3) := by decide +kernel
theorem d9_34 : decode prog_5_method_17_code 34 = .ok (.iload_n 1, 1) := by decide +kernel
theorem d9_35 : decode prog_5_method_17_code 35 = .ok (.laload, 1) := by decide +kernel
theorem d9_36 : decode prog_5_method_17_code 36 = .ok (.lneg, 1) := by decide +kernel
theorem d9_37 : decode prog_5_method_17_code 37 = .ok (.lreturn, 1) := by decide +kernel
theorem d9_24 : decode prog_5_method_17_code 24 = .ok (.ldc2_w 84, 3) := by decide +kernel
theorem d9_27 : decode prog_5_method_17_code 27 = .ok (.goto 10, 3) := by decide +kernel
theorem d9_4 : decode prog_5_method_17_code 4 = .ok (.aload_n 0, 1) := by decide +kernel
theorem d9_5 : decode prog_5_method_17_code 5 = .ok (.getfield 37, 3) := by decide +kernel
theorem d9_8 : decode prog_5_method_17_code 8 = .ok (.iload_n 1, 1) := by decide +kernel
theorem d9_9 : decode prog_5_method_17_code 9 = .ok (.laload, 1) := by decide +kernel
theorem d9_10 : decode prog_5_method_17_code 10 = .ok (.lreturn, 1) := by decide +kernel
def Q9 (Z : State) (ao : Addr) (xc : Int32) (xf : Int32) (zl : Addr) (zh : Addr) (fl : Nat → Int64) (fh : Nat → Int64) (k : Nat) (h0 : Heap) (n0 : Nat) (v : Option Value) (h : Heap) (L : List Loc) : Prop := ∃ r : Int64, v = some (.long r) ∧ Fr n0 L ∧ h = h0 ∧ ((¬ xf = 0 ∧ r = fh k) ∨ (xf = 0 ∧ ((fl k = (-9223372036854775808 : Int64) ∧ r = (9223372036854775807 : Int64)) ∨ (¬ fl k = (-9223372036854775808 : Int64) ∧ r = -fl k))))
set_option maxRecDepth 65536 in
set_option maxHeartbeats 40000000 in
theorem rm9 (l : Launch) (Z : State) (a0 : Array Value) (hw : ∀ d ∈ tables_1, d.before a0 Z = true) (ws : List Jvm.Cond) (ao : Addr) (xc : Int32) (xf : Int32) (zl : Addr) (zh : Addr) (fl : Nat → Int64) (fh : Nat → Int64) (k : Nat) (h0 : Heap) (n0 : Nat) (Z0 : n0 ≤ h0.size) (F1 : Fld Z h0 ao "com/example/tempora/tempora/DistanceGraph" "lo" "[J" (.ref zl)) (F2 : Fld Z h0 ao "com/example/tempora/tempora/DistanceGraph" "hi" "[J" (.ref zh)) (A1 : W.AJ Z h0 zl 8 fl) (A2 : W.AJ Z h0 zh 8 fh) (hk : xc.toInt = k) (hk8 : k < 8) :
    MetFree l (⟨"com/example/tempora/tempora/DistanceGraph", "lengthIfValid", "(IZ)J"⟩ : MethodName) (head1 (Jvm.Cond.code (⟨"com/example/tempora/tempora/DistanceGraph", "lengthIfValid", "(IZ)J"⟩ : MethodName) prog_5_method_17_code 3 (some .long) :: ws) ({ frames := 0, cells := 0, slots := 0, locals := 0 } : Room)) (fun a U => a = #[(.ref ao), (.int xc), (.int xf)] ∧ Z.Warmed39 U.vm ∧ U.heap = h0) (fun _ _ _ _ _ => True) (fun _ U o U' => ∃ v L, o = .returned v ∧ Q9 Z ao xc xf zl zh fl fh k h0 n0 v U'.heap L ∧ FrameEnd U o U' L ({ frames := 0, cells := 0, slots := 0, locals := 0 } : Room).cells ({ frames := 0, cells := 0, slots := 0, locals := 0 } : Room).slots) := by
  refine MetFree.of_bodySF (plainFor_of_name pn_0) hisR ?_
  intro p e s m args below meth c s₁ Bd hml0 hP hK
  obtain ⟨rfl, hZ, hh⟩ := hP
  have hx := Bd.exec
  have hby := Bd.bytes
  have hml : c.maxLocals = 3 := hml0
  have hown : s.vm.findClass "com/example/tempora/tempora/DistanceGraph" = some m.cls := findClass_of_methodNamed Bd.named
  have hnm := (name_of_methodNamed Bd.named Bd.method).1
  have hlk : meth.locks = false := BodyLoose.notSynchronized Bd
  have X0 : Stand p l e ({ frames := 0, cells := 0, slots := 0, locals := 0 } : Room) s m #[(.ref ao), (.int xc), (.int xf)] below meth c s₁ [] 0 0 := Stand.of_body Bd
  have e0 : s₁.heap = h0 := by rw [← hh, Bd.state]; rfl
  have N0 := Fr.nil n0
  show W.Gl p e below s (Q9 Z ao xc xf zl zh fl fh k h0 n0) ({ frames := 0, cells := 0, slots := 0, locals := 0 } : Room).cells ({ frames := 0, cells := 0, slots := 0, locals := 0 } : Room).slots s₁ (entryFrame m #[(.ref ao), (.int xc), (.int xf)] 3)
  refine W.cast (ef_9 m ao xc xf) ?_
  refine W.s1 (mkF m 1 #[.val (.ref ao), .val (.int xc), .val (.int xf)] [(.int xf)]) (fun _ kx_ => XS.iloadN X0.here hx rfl (hb hby d9_0) rfl kx_) ?_
  refine W.ifc X0 hx (hb hby d9_1) (pc' := 11) (pc'' := 4) (by decide) (by decide) rfl (fun (c1 : xf = (0 : Int32)) => ?_) (fun (c1 : ¬ xf = (0 : Int32)) => ?_)
  · refine W.s1 (mkF m 12 #[.val (.ref ao), .val (.int xc), .val (.int xf)] [(.ref ao)]) (fun _ kx_ => XS.aloadN X0.here hx rfl (hb hby d9_11) rfl rfl kx_) ?_
    refine W.getf X0 hx hZ hown (host := "") (Or.inl (hw _ (List.mem_of_getElem? (i := 32) rfl))) Via.refl e0 F1 (hb hby d9_12) (pc' := 15) rfl (fun T101 X101 e101 => ?_)
    refine W.s1 (mkF m 16 #[.val (.ref ao), .val (.int xc), .val (.int xf)] [(.int xc), (.ref zl)]) (fun _ kx_ => XS.iloadN X101.here hx rfl (hb hby d9_15) rfl kx_) ?_
    refine W.ldj X101 hx hZ e101 A1 k hk hk8 (hb hby d9_16) (pc' := 17) rfl ?_
    refine W.s1 (mkF m 20 #[.val (.ref ao), .val (.int xc), .val (.int xf)] [(.long (-9223372036854775808 : Int64)), (.long (fl k))]) (fun _ kx_ => X101.ldc2Long hx hown (mvT hZ (hw _ (List.mem_of_getElem? (i := 78) rfl))) (g := (mkF m 17 #[.val (.ref ao), .val (.int xc), .val (.int xf)] [(.long (fl k))])) rfl (hb hby d9_17) _ kx_) ?_
    refine W.lif X101 hx (hb hby d9_20) (pc1 := 21) rfl (hb hby d9_21) (pc' := 30) (pc'' := 24) (by decide) (by decide) rfl (fun (c21 : ¬ (fl k) = (-9223372036854775808 : Int64)) => ?_) (fun (c21 : (fl k) = (-9223372036854775808 : Int64)) => ?_)
    · refine W.s1 (mkF m 31 #[.val (.ref ao), .val (.int xc), .val (.int xf)] [(.ref ao)]) (fun _ kx_ => XS.aloadN X101.here hx rfl (hb hby d9_30) rfl rfl kx_) ?_
      refine W.getf X101 hx hZ hown (host := "") (Or.inl (hw _ (List.mem_of_getElem? (i := 32) rfl))) Via.refl e101 F1 (hb hby d9_31) (pc' := 34) rfl (fun T102 X102 e102 => ?_)
      refine W.s1 (mkF m 35 #[.val (.ref ao), .val (.int xc), .val (.int xf)] [(.int xc), (.ref zl)]) (fun _ kx_ => XS.iloadN X102.here hx rfl (hb hby d9_34) rfl kx_) ?_
      refine W.ldj X102 hx hZ e102 A1 k hk hk8 (hb hby d9_35) (pc' := 36) rfl ?_
      refine W.s1 (mkF m 37 #[.val (.ref ao), .val (.int xc), .val (.int xf)] [(.long (-(fl k)))]) (fun _ kx_ => XS.lneg X102.here hx rfl (hb hby d9_36) rfl kx_) ?_
      exact W.retL X102 hx hlk Bd.returns (hb hby d9_37) (by show Q9 Z ao xc xf zl zh fl fh k h0 n0 _ T102.heap _; rw [e102]; exact ⟨_, rfl, N0, rfl, Or.inr ⟨c1, Or.inr ⟨c21, rfl⟩⟩⟩) (by decide) (by decide)
    · refine W.s1 (mkF m 27 #[.val (.ref ao), .val (.int xc), .val (.int xf)] [(.long (9223372036854775807 : Int64))]) (fun _ kx_ => X101.ldc2Long hx hown (mvT hZ (hw _ (List.mem_of_getElem? (i := 79) rfl))) (g := (mkF m 24 #[.val (.ref ao), .val (.int xc), .val (.int xf)] [])) rfl (hb hby d9_24) _ kx_) ?_
      refine W.s1 (mkF m 37 #[.val (.ref ao), .val (.int xc), .val (.int xf)] [(.long (9223372036854775807 : Int64))]) (fun _ kx_ => XS.goto X101.here hx rfl (pc0 := 27) (pc' := 37) rfl (hb hby d9_27) (by decide) (by decide) kx_) ?_
      exact W.retL X101 hx hlk Bd.returns (hb hby d9_37) (by show Q9 Z ao xc xf zl zh fl fh k h0 n0 _ T101.heap _; rw [e101]; exact ⟨_, rfl, N0, rfl, Or.inr ⟨c1, Or.inl ⟨c21, rfl⟩⟩⟩) (by decide) (by decide)
  · refine W.s1 (mkF m 5 #[.val (.ref ao), .val (.int xc), .val (.int xf)] [(.ref ao)]) (fun _ kx_ => XS.aloadN X0.here hx rfl (hb hby d9_4) rfl rfl kx_) ?_
    refine W.getf X0 hx hZ hown (host := "") (Or.inl (hw _ (List.mem_of_getElem? (i := 34) rfl))) Via.refl e0 F2 (hb hby d9_5) (pc' := 8) rfl (fun T103 X103 e103 => ?_)
    refine W.s1 (mkF m 9 #[.val (.ref ao), .val (.int xc), .val (.int xf)] [(.int xc), (.ref zh)]) (fun _ kx_ => XS.iloadN X103.here hx rfl (hb hby d9_8) rfl kx_) ?_
    refine W.ldj X103 hx hZ e103 A2 k hk hk8 (hb hby d9_9) (pc' := 10) rfl ?_
    exact W.retL X103 hx hlk Bd.returns (hb hby d9_10) (by show Q9 Z ao xc xf zl zh fl fh k h0 n0 _ T103.heap _; rw [e103]; exact ⟨_, rfl, N0, rfl, Or.inl ⟨c1, rfl⟩⟩) (by decide) (by decide)
theorem pn_2 : plainName "com/example/tempora/tempora/DistanceGraphLengthIfValidPinLaw" = true := by first | (simp [plainName, overriddenIn]; done) | decide +kernel
theorem ef_10 (m : MethodId) (x0 : Int64) (x1 : Int64) : entryFrame m #[(.long x0), (.long x1)] 4 = mkF m 0 #[.val (.long x0), .second, .val (.long x1), .second] [] := by first | (simp [entryFrame, mkF, argsToLocals, Value.category]; done) | rfl
theorem d10_0 : decode method_2_code 0 = .ok (.lload_n 0, 1) := by decide +kernel
theorem d10_1 : decode method_2_code 1 = .ok (.lload_n 2, 1) := by decide +kernel
theorem d10_2 : decode method_2_code 2 = .ok (.lcmp, 1) := by decide +kernel
theorem d10_3 : decode method_2_code 3 = .ok (.ifCond .ne 7, 3) := by decide +kernel
theorem d10_6 : decode method_2_code 6 = .ok (.iconst 1, 1) := by decide +kernel
theorem d10_7 : decode method_2_code 7 = .ok (.goto 4, 3) := by decide +kernel
theorem d10_11 : decode method_2_code 11 = .ok (.ireturn, 1) := by decide +kernel
def Q10 (Z : State) (yr : Int64) (yh : Int64) (h0 : Heap) (n0 : Nat) (v : Option Value) (h : Heap) (L : List Loc) : Prop := v = some (.int 1) ∧ Fr n0 L ∧ h = h0
set_option maxRecDepth 65536 in
set_option maxHeartbeats 40000000 in
theorem rm10 (l : Launch) (Z : State) (a0 : Array Value) (hw : ∀ d ∈ tables_1, d.before a0 Z = true) (ws : List Jvm.Cond) (yr : Int64) (yh : Int64) (h0 : Heap) (n0 : Nat) (Z0 : n0 ≤ h0.size) (he : yr = yh) :
    MetFree l (⟨"com/example/tempora/tempora/DistanceGraphLengthIfValidPinLaw", "fromOk", "(JJ)Z"⟩ : MethodName) (head1 (Jvm.Cond.code (⟨"com/example/tempora/tempora/DistanceGraphLengthIfValidPinLaw", "fromOk", "(JJ)Z"⟩ : MethodName) method_2_code 4 (some .boolean) :: ws) ({ frames := 0, cells := 0, slots := 0, locals := 0 } : Room)) (fun a U => a = #[(.long yr), (.long yh)] ∧ Z.Warmed39 U.vm ∧ U.heap = h0) (fun _ _ _ _ _ => True) (fun _ U o U' => ∃ v L, o = .returned v ∧ Q10 Z yr yh h0 n0 v U'.heap L ∧ FrameEnd U o U' L ({ frames := 0, cells := 0, slots := 0, locals := 0 } : Room).cells ({ frames := 0, cells := 0, slots := 0, locals := 0 } : Room).slots) := by
  refine MetFree.of_bodySF (plainFor_of_name pn_2) hisR ?_
  intro p e s m args below meth c s₁ Bd hml0 hP hK
  obtain ⟨rfl, hZ, hh⟩ := hP
  have hx := Bd.exec
  have hby := Bd.bytes
  have hml : c.maxLocals = 4 := hml0
  have hown : s.vm.findClass "com/example/tempora/tempora/DistanceGraphLengthIfValidPinLaw" = some m.cls := findClass_of_methodNamed Bd.named
  have hnm := (name_of_methodNamed Bd.named Bd.method).1
  have hlk : meth.locks = false := BodyLoose.notSynchronized Bd
  have X0 : Stand p l e ({ frames := 0, cells := 0, slots := 0, locals := 0 } : Room) s m #[(.long yr), (.long yh)] below meth c s₁ [] 0 0 := Stand.of_body Bd
  have e0 : s₁.heap = h0 := by rw [← hh, Bd.state]; rfl
  have N0 := Fr.nil n0
  show W.Gl p e below s (Q10 Z yr yh h0 n0) ({ frames := 0, cells := 0, slots := 0, locals := 0 } : Room).cells ({ frames := 0, cells := 0, slots := 0, locals := 0 } : Room).slots s₁ (entryFrame m #[(.long yr), (.long yh)] 4)
  refine W.cast (ef_10 m yr yh) ?_
  refine W.s1 (mkF m 1 #[.val (.long yr), .second, .val (.long yh), .second] [(.long yr)]) (fun _ kx_ => XS.lloadN X0.here hx rfl (hb hby d10_0) rfl kx_) ?_
  refine W.s1 (mkF m 2 #[.val (.long yr), .second, .val (.long yh), .second] [(.long yh), (.long yr)]) (fun _ kx_ => XS.lloadN X0.here hx rfl (hb hby d10_1) rfl kx_) ?_
  refine W.lif X0 hx (hb hby d10_2) (pc1 := 3) rfl (hb hby d10_3) (pc' := 10) (pc'' := 6) (by decide) (by decide) rfl (fun (c3 : ¬ yr = yh) => ?_) (fun (c3 : yr = yh) => ?_)
  · exact absurd he c3
  · refine W.s1 (mkF m 7 #[.val (.long yr), .second, .val (.long yh), .second] [(.int (1 : Int32))]) (fun _ kx_ => XS.iconst X0.here hx rfl (hb hby d10_6) kx_) ?_
    refine W.s1 (mkF m 11 #[.val (.long yr), .second, .val (.long yh), .second] [(.int (1 : Int32))]) (fun _ kx_ => XS.goto X0.here hx rfl (pc0 := 7) (pc' := 11) rfl (hb hby d10_7) (by decide) (by decide) kx_) ?_
    exact W.retZ X0 hx hlk (t := .boolean) (z' := (1 : Int32)) Bd.returns (by simp) (hb hby d10_11) rfl (by show Q10 Z yr yh h0 n0 _ s₁.heap _; rw [e0]; exact ⟨rfl, N0, rfl⟩) (by decide) (by decide)
theorem ef_11 (m : MethodId) (x0 : Int64) (x1 : Int64) : entryFrame m #[(.long x0), (.long x1)] 4 = mkF m 0 #[.val (.long x0), .second, .val (.long x1), .second] [] := by first | (simp [entryFrame, mkF, argsToLocals, Value.category]; done) | rfl
theorem d11_0 : decode method_3_code 0 = .ok (.lload_n 2, 1) := by decide +kernel
theorem d11_1 : decode method_3_code 1 = .ok (.ldc2_w 9, 3) := by decide +kernel
theorem d11_4 : decode method_3_code 4 = .ok (.lcmp, 1) := by decide +kernel
theorem d11_5 : decode method_3_code 5 = .ok (.ifCond .ne 17, 3) := by decide +kernel
theorem d11_22 : decode method_3_code 22 = .ok (.lload_n 0, 1) := by decide +kernel
theorem d11_23 : decode method_3_code 23 = .ok (.lload_n 2, 1) := by decide +kernel
theorem d11_24 : decode method_3_code 24 = .ok (.ladd, 1) := by decide +kernel
theorem d11_25 : decode method_3_code 25 = .ok (.lconst 0, 1) := by decide +kernel
theorem d11_26 : decode method_3_code 26 = .ok (.lcmp, 1) := by decide +kernel
theorem d11_27 : decode method_3_code 27 = .ok (.ifCond .ne 7, 3) := by decide +kernel
theorem d11_30 : decode method_3_code 30 = .ok (.iconst 1, 1) := by decide +kernel
theorem d11_31 : decode method_3_code 31 = .ok (.goto 4, 3) := by decide +kernel
theorem d11_35 : decode method_3_code 35 = .ok (.ireturn, 1) := by decide +kernel
theorem d11_8 : decode method_3_code 8 = .ok (.lload_n 0, 1) := by decide +kernel
theorem d11_9 : decode method_3_code 9 = .ok (.ldc2_w 11, 3) := by decide +kernel
theorem d11_12 : decode method_3_code 12 = .ok (.lcmp, 1) := by decide +kernel
theorem d11_13 : decode method_3_code 13 = .ok (.ifCond .ne 7, 3) := by decide +kernel
theorem d11_16 : decode method_3_code 16 = .ok (.iconst 1, 1) := by decide +kernel
theorem d11_17 : decode method_3_code 17 = .ok (.goto 4, 3) := by decide +kernel
theorem d11_21 : decode method_3_code 21 = .ok (.ireturn, 1) := by decide +kernel
def Q11 (Z : State) (yr : Int64) (yl : Int64) (h0 : Heap) (n0 : Nat) (v : Option Value) (h : Heap) (L : List Loc) : Prop := v = some (.int 1) ∧ Fr n0 L ∧ h = h0
set_option maxRecDepth 65536 in
set_option maxHeartbeats 40000000 in
theorem rm11 (l : Launch) (Z : State) (a0 : Array Value) (hw : ∀ d ∈ tables_1, d.before a0 Z = true) (ws : List Jvm.Cond) (yr : Int64) (yl : Int64) (h0 : Heap) (n0 : Nat) (Z0 : n0 ≤ h0.size) (he : (yl = (-9223372036854775808 : Int64) ∧ yr = (9223372036854775807 : Int64)) ∨ (¬ yl = (-9223372036854775808 : Int64) ∧ yr = -yl)) :
    MetFree l (⟨"com/example/tempora/tempora/DistanceGraphLengthIfValidPinLaw", "toOk", "(JJ)Z"⟩ : MethodName) (head1 (Jvm.Cond.code (⟨"com/example/tempora/tempora/DistanceGraphLengthIfValidPinLaw", "toOk", "(JJ)Z"⟩ : MethodName) method_3_code 4 (some .boolean) :: ws) ({ frames := 0, cells := 0, slots := 0, locals := 0 } : Room)) (fun a U => a = #[(.long yr), (.long yl)] ∧ Z.Warmed39 U.vm ∧ U.heap = h0) (fun _ _ _ _ _ => True) (fun _ U o U' => ∃ v L, o = .returned v ∧ Q11 Z yr yl h0 n0 v U'.heap L ∧ FrameEnd U o U' L ({ frames := 0, cells := 0, slots := 0, locals := 0 } : Room).cells ({ frames := 0, cells := 0, slots := 0, locals := 0 } : Room).slots) := by
  refine MetFree.of_bodySF (plainFor_of_name pn_2) hisR ?_
  intro p e s m args below meth c s₁ Bd hml0 hP hK
  obtain ⟨rfl, hZ, hh⟩ := hP
  have hx := Bd.exec
  have hby := Bd.bytes
  have hml : c.maxLocals = 4 := hml0
  have hown : s.vm.findClass "com/example/tempora/tempora/DistanceGraphLengthIfValidPinLaw" = some m.cls := findClass_of_methodNamed Bd.named
  have hnm := (name_of_methodNamed Bd.named Bd.method).1
  have hlk : meth.locks = false := BodyLoose.notSynchronized Bd
  have X0 : Stand p l e ({ frames := 0, cells := 0, slots := 0, locals := 0 } : Room) s m #[(.long yr), (.long yl)] below meth c s₁ [] 0 0 := Stand.of_body Bd
  have e0 : s₁.heap = h0 := by rw [← hh, Bd.state]; rfl
  have N0 := Fr.nil n0
  show W.Gl p e below s (Q11 Z yr yl h0 n0) ({ frames := 0, cells := 0, slots := 0, locals := 0 } : Room).cells ({ frames := 0, cells := 0, slots := 0, locals := 0 } : Room).slots s₁ (entryFrame m #[(.long yr), (.long yl)] 4)
  refine W.cast (ef_11 m yr yl) ?_
  refine W.s1 (mkF m 1 #[.val (.long yr), .second, .val (.long yl), .second] [(.long yl)]) (fun _ kx_ => XS.lloadN X0.here hx rfl (hb hby d11_0) rfl kx_) ?_
  refine W.s1 (mkF m 4 #[.val (.long yr), .second, .val (.long yl), .second] [(.long (-9223372036854775808 : Int64)), (.long yl)]) (fun _ kx_ => X0.ldc2Long hx hown (mvT hZ (hw _ (List.mem_of_getElem? (i := 0) rfl))) (g := (mkF m 1 #[.val (.long yr), .second, .val (.long yl), .second] [(.long yl)])) rfl (hb hby d11_1) _ kx_) ?_
  refine W.lif X0 hx (hb hby d11_4) (pc1 := 5) rfl (hb hby d11_5) (pc' := 22) (pc'' := 8) (by decide) (by decide) rfl (fun (c5 : ¬ yl = (-9223372036854775808 : Int64)) => ?_) (fun (c5 : yl = (-9223372036854775808 : Int64)) => ?_)
  · refine W.s1 (mkF m 23 #[.val (.long yr), .second, .val (.long yl), .second] [(.long yr)]) (fun _ kx_ => XS.lloadN X0.here hx rfl (hb hby d11_22) rfl kx_) ?_
    refine W.s1 (mkF m 24 #[.val (.long yr), .second, .val (.long yl), .second] [(.long yl), (.long yr)]) (fun _ kx_ => XS.lloadN X0.here hx rfl (hb hby d11_23) rfl kx_) ?_
    refine W.s1 (mkF m 25 #[.val (.long yr), .second, .val (.long yl), .second] [(.long (yr + yl))]) (fun _ kx_ => XS.ladd X0.here hx rfl (hb hby d11_24) rfl kx_) ?_
    refine W.s1 (mkF m 26 #[.val (.long yr), .second, .val (.long yl), .second] [(.long (0 : Int64)), (.long (yr + yl))]) (fun _ kx_ => XS.lconst X0.here hx rfl (hb hby d11_25) kx_) ?_
    refine W.lif X0 hx (hb hby d11_26) (pc1 := 27) rfl (hb hby d11_27) (pc' := 34) (pc'' := 30) (by decide) (by decide) rfl (fun (c27 : ¬ (yr + yl) = (0 : Int64)) => ?_) (fun (c27 : (yr + yl) = (0 : Int64)) => ?_)
    · exact absurd (he.elim (fun q => absurd q.1 c5) (fun q => by rw [q.2]; exact own_toOk yl)) c27
    · refine W.s1 (mkF m 31 #[.val (.long yr), .second, .val (.long yl), .second] [(.int (1 : Int32))]) (fun _ kx_ => XS.iconst X0.here hx rfl (hb hby d11_30) kx_) ?_
      refine W.s1 (mkF m 35 #[.val (.long yr), .second, .val (.long yl), .second] [(.int (1 : Int32))]) (fun _ kx_ => XS.goto X0.here hx rfl (pc0 := 31) (pc' := 35) rfl (hb hby d11_31) (by decide) (by decide) kx_) ?_
      exact W.retZ X0 hx hlk (t := .boolean) (z' := (1 : Int32)) Bd.returns (by simp) (hb hby d11_35) rfl (by show Q11 Z yr yl h0 n0 _ s₁.heap _; rw [e0]; exact ⟨rfl, N0, rfl⟩) (by decide) (by decide)
  · refine W.s1 (mkF m 9 #[.val (.long yr), .second, .val (.long yl), .second] [(.long yr)]) (fun _ kx_ => XS.lloadN X0.here hx rfl (hb hby d11_8) rfl kx_) ?_
    refine W.s1 (mkF m 12 #[.val (.long yr), .second, .val (.long yl), .second] [(.long (9223372036854775807 : Int64)), (.long yr)]) (fun _ kx_ => X0.ldc2Long hx hown (mvT hZ (hw _ (List.mem_of_getElem? (i := 1) rfl))) (g := (mkF m 9 #[.val (.long yr), .second, .val (.long yl), .second] [(.long yr)])) rfl (hb hby d11_9) _ kx_) ?_
    refine W.lif X0 hx (hb hby d11_12) (pc1 := 13) rfl (hb hby d11_13) (pc' := 20) (pc'' := 16) (by decide) (by decide) rfl (fun (c13 : ¬ yr = (9223372036854775807 : Int64)) => ?_) (fun (c13 : yr = (9223372036854775807 : Int64)) => ?_)
    · exact absurd (he.elim (fun q => q.2) (fun q => absurd c5 q.1)) c13
    · refine W.s1 (mkF m 17 #[.val (.long yr), .second, .val (.long yl), .second] [(.int (1 : Int32))]) (fun _ kx_ => XS.iconst X0.here hx rfl (hb hby d11_16) kx_) ?_
      refine W.s1 (mkF m 21 #[.val (.long yr), .second, .val (.long yl), .second] [(.int (1 : Int32))]) (fun _ kx_ => XS.goto X0.here hx rfl (pc0 := 17) (pc' := 21) rfl (hb hby d11_17) (by decide) (by decide) kx_) ?_
      exact W.retZ X0 hx hlk (t := .boolean) (z' := (1 : Int32)) Bd.returns (by simp) (hb hby d11_21) rfl (by show Q11 Z yr yl h0 n0 _ s₁.heap _; rw [e0]; exact ⟨rfl, N0, rfl⟩) (by decide) (by decide)
theorem ef_0 (m : MethodId) (x0 : Int64) (x1 : Int64) (x2 : Int64) (x3 : Int64) (x4 : Int32) : entryFrame m #[(.long x0), (.long x1), (.long x2), (.long x3), (.int x4)] maxLocals = mkF m 0 #[.val (.long x0), .second, .val (.long x1), .second, .val (.long x2), .second, .val (.long x3), .second, .val (.int x4), .unset, .unset, .unset, .unset, .unset, .unset, .unset, .unset, .unset, .unset, .unset, .unset, .unset, .unset, .unset, .unset, .unset, .unset, .unset, .unset, .unset, .unset] [] := by first | (simp [entryFrame, mkF, argsToLocals, Value.category, maxLocals]; done) | rfl
theorem pd_3 : parseMethodDescriptor "()V" = some ⟨[], none⟩ := by decide +kernel
theorem pd_4 : parseMethodDescriptor "(Lcom/example/tempora/tempora/PointStatus;)I" = some ⟨[(.object "com/example/tempora/tempora/PointStatus")], some .int⟩ := by decide +kernel
theorem pd_5 : parseMethodDescriptor "(IIJJ)I" = some ⟨[.int, .int, .long, .long], some .int⟩ := by decide +kernel
theorem pd_6 : parseMethodDescriptor "(IZ)J" = some ⟨[.int, .boolean], some .long⟩ := by decide +kernel
theorem pd_7 : parseMethodDescriptor "(JJ)Z" = some ⟨[.long, .long], some .boolean⟩ := by decide +kernel
def Q0 (Z : State) (y1 : Int64) (y2 : Int64) (y3 : Int64) (y4 : Int64) (xs : Int32) (aV : Addr) (aI : Addr) (aU : Addr) (h0 : Heap) (n0 : Nat) (v : Option Value) (h : Heap) (L : List Loc) : Prop := v = some (.int 1) ∧ Fr n0 L
set_option maxRecDepth 65536 in
set_option maxHeartbeats 40000000 in
theorem rm0 (l : Launch) (Z : State) (a0 : Array Value) (hw : ∀ d ∈ tables_1, d.before a0 Z = true) (ws : List Jvm.Cond) (y1 : Int64) (y2 : Int64) (y3 : Int64) (y4 : Int64) (xs : Int32) (aV : Addr) (aI : Addr) (aU : Addr) (h0 : Heap) (n0 : Nat) (Z0 : n0 ≤ h0.size) (S_VALID : Sta Z Z.heap "com/example/tempora/tempora/PointStatus" "VALID" "Lcom/example/tempora/tempora/PointStatus;" (.ref aV)) (S_INVALID : Sta Z Z.heap "com/example/tempora/tempora/PointStatus" "INVALID" "Lcom/example/tempora/tempora/PointStatus;" (.ref aI)) (S_UNDECIDED : Sta Z Z.heap "com/example/tempora/tempora/PointStatus" "UNDECIDED" "Lcom/example/tempora/tempora/PointStatus;" (.ref aU)) (E_VALID : Exa Z Z.heap aV "com/example/tempora/tempora/PointStatus") (E_INVALID : Exa Z Z.heap aI "com/example/tempora/tempora/PointStatus") (E_UNDECIDED : Exa Z Z.heap aU "com/example/tempora/tempora/PointStatus") (O0 : Old Z n0 h0) :
    MetFree l x (head1 (Jvm.Cond.code x code maxLocals ret :: ws) room_1) (fun a U => a = #[(.long y1), (.long y2), (.long y3), (.long y4), (.int xs)] ∧ Z.Warmed39 U.vm ∧ U.heap = h0) (fun _ _ _ _ _ => True) (fun _ U o U' => ∃ v L, o = .returned v ∧ Q0 Z y1 y2 y3 y4 xs aV aI aU h0 n0 v U'.heap L ∧ FrameEnd U o U' L 40 256) := by
  refine MetFree.of_bodySF (plainFor_of_name pn_2) hisR ?_
  intro p e s m args below meth c s₁ Bd hml0 hP hK
  obtain ⟨rfl, hZ, hh⟩ := hP
  have hx := Bd.exec
  have hby := Bd.bytes
  have hml : c.maxLocals = 31 := hml0
  have hown : s.vm.findClass "com/example/tempora/tempora/DistanceGraphLengthIfValidPinLaw" = some m.cls := findClass_of_methodNamed Bd.named
  have hnm := (name_of_methodNamed Bd.named Bd.method).1
  have hlk : meth.locks = false := BodyLoose.notSynchronized Bd
  have X0 : Stand p l e room_1 s m #[(.long y1), (.long y2), (.long y3), (.long y4), (.int xs)] below meth c s₁ [] 0 0 := Stand.of_body Bd
  have e0 : s₁.heap = h0 := by rw [← hh, Bd.state]; rfl
  have N0 := Fr.nil n0
  show W.Gl p e below s (Q0 Z y1 y2 y3 y4 xs aV aI aU h0 n0) 40 256 s₁ (entryFrame m #[(.long y1), (.long y2), (.long y3), (.long y4), (.int xs)] maxLocals)
  refine W.cast (ef_0 m y1 y2 y3 y4 xs) ?_
  have J104 : ∀ (T : State) (l1 g1 l2 g2 : Int64) (sA : Addr), Stand p l e room_1 s m #[(.long y1), (.long y2), (.long y3), (.long y4), (.int xs)] below meth c T [] 0 0 → T.heap = h0 → Exa Z Z.heap sA "com/example/tempora/tempora/PointStatus" → W.Gl p e below s (Q0 Z y1 y2 y3 y4 xs aV aI aU h0 n0) 40 256 T (mkF m 104 #[.val (.long y1), .second, .val (.long y2), .second, .val (.long y3), .second, .val (.long y4), .second, .val (.int xs), .val (.long l1), .second, .val (.long g1), .second, .val (.long l2), .second, .val (.long g2), .second, .val (.ref sA), .unset, .unset, .unset, .unset, .unset, .unset, .unset, .unset, .unset, .unset, .unset, .unset, .unset] []) := by
    intro T l1 g1 l2 g2 sA X eT EA
    refine W.newo X hx hZ hown (hw _ (List.mem_of_getElem? (i := 5) rfl)) (hw _ (List.mem_of_getElem? (i := 6) rfl)) (hw _ (List.mem_of_getElem? (i := 7) rfl)) eT (hb hby at_104) (by decide) (by decide) (pc' := 107) rfl (fun T101 h101 b101 X101 e101 E101 g101 A101 D101 => ?_)
    have ge101 : n0 ≤ b101 := Nat.le_trans Z0 (Nat.le_of_eq g101.symm)
    have Z101 : n0 ≤ h101.size := Nat.le_trans Z0 E101.1
    have f102 := O0.ext E101
    have f103 : Fld Z h101 b101 "com/example/tempora/tempora/DistanceGraph" "incident" "[[I" .null := D101 (Or.inl (hw _ (List.mem_of_getElem? (i := 17) rfl))) (ty := (.array (.array .int))) (by decide)
    have f104 : Fld Z h101 b101 "com/example/tempora/tempora/DistanceGraph" "degree" "[I" .null := D101 (Or.inl (hw _ (List.mem_of_getElem? (i := 20) rfl))) (ty := (.array .int)) (by decide)
    have f105 : Fld Z h101 b101 "com/example/tempora/tempora/DistanceGraph" "status" "[Lcom/example/tempora/tempora/PointStatus;" .null := D101 (Or.inl (hw _ (List.mem_of_getElem? (i := 24) rfl))) (ty := (.array (.object "com/example/tempora/tempora/PointStatus"))) (by decide)
    have f106 : Fld Z h101 b101 "com/example/tempora/tempora/DistanceGraph" "free" "[I" .null := D101 (Or.inl (hw _ (List.mem_of_getElem? (i := 26) rfl))) (ty := (.array .int)) (by decide)
    have f107 : Fld Z h101 b101 "com/example/tempora/tempora/DistanceGraph" "from" "[I" .null := D101 (Or.inl (hw _ (List.mem_of_getElem? (i := 28) rfl))) (ty := (.array .int)) (by decide)
    have f108 : Fld Z h101 b101 "com/example/tempora/tempora/DistanceGraph" "to" "[I" .null := D101 (Or.inl (hw _ (List.mem_of_getElem? (i := 30) rfl))) (ty := (.array .int)) (by decide)
    have f109 : Fld Z h101 b101 "com/example/tempora/tempora/DistanceGraph" "lo" "[J" .null := D101 (Or.inl (hw _ (List.mem_of_getElem? (i := 33) rfl))) (ty := (.array .long)) (by decide)
    have f110 : Fld Z h101 b101 "com/example/tempora/tempora/DistanceGraph" "hi" "[J" .null := D101 (Or.inl (hw _ (List.mem_of_getElem? (i := 35) rfl))) (ty := (.array .long)) (by decide)
    have f111 : Fld Z h101 b101 "com/example/tempora/tempora/DistanceGraph" "pointCount" "I" (.int (0 : Int32)) := D101 (Or.inl (hw _ (List.mem_of_getElem? (i := 42) rfl))) (ty := .int) (by decide)
    have f112 : Fld Z h101 b101 "com/example/tempora/tempora/DistanceGraph" "freeCount" "I" (.int (0 : Int32)) := D101 (Or.inl (hw _ (List.mem_of_getElem? (i := 51) rfl))) (ty := .int) (by decide)
    have f113 : Fld Z h101 b101 "com/example/tempora/tempora/DistanceGraph" "constraintCount" "I" (.int (0 : Int32)) := D101 (Or.inl (hw _ (List.mem_of_getElem? (i := 53) rfl))) (ty := .int) (by decide)
    refine W.s1 (mkF m 108 #[.val (.long y1), .second, .val (.long y2), .second, .val (.long y3), .second, .val (.long y4), .second, .val (.int xs), .val (.long l1), .second, .val (.long g1), .second, .val (.long l2), .second, .val (.long g2), .second, .val (.ref sA), .unset, .unset, .unset, .unset, .unset, .unset, .unset, .unset, .unset, .unset, .unset, .unset, .unset] [(.ref b101), (.ref b101)]) (fun _ kx_ => XS.dup X101.here hx rfl (hb hby at_107) rfl rfl kx_) ?_
    obtain ⟨_, _, ⟨T114, L114, k114, n114⟩, -, X114, ⟨Lc114, hQ114, l114, y114, z114⟩, st114⟩ := X101.specialBack hx (y := (⟨"com/example/tempora/tempora/DistanceGraph", "<init>", "()V"⟩ : MethodName)) rfl hown (mvT hZ (hw _ (List.mem_of_getElem? (i := 8) rfl))) (mvT hZ (hw _ (List.mem_of_getElem? (i := 9) rfl))) (mvT hZ (hw _ (List.mem_of_getElem? (i := 10) rfl))) (by decide) (backOf (W := 1) (rm1 l Z a0 hw [] b101 .null .null .null .null .null .null .null .null h101 n0 Z101 A101 f103 f104 f105 f107 f108 f109 f110 f106 f111 f112 f113 ge101) hZ (hw _ (List.mem_of_getElem? (i := 10) rfl)) (hw _ (List.mem_of_getElem? (i := 7) rfl)) (by decide) (by decide)) (g := (mkF m 108 #[.val (.long y1), .second, .val (.long y2), .second, .val (.long y3), .second, .val (.long y4), .second, .val (.int xs), .val (.long l1), .second, .val (.long g1), .second, .val (.long l2), .second, .val (.long g2), .second, .val (.ref sA), .unset, .unset, .unset, .unset, .unset, .unset, .unset, .unset, .unset, .unset, .unset, .unset, .unset] [(.ref b101), (.ref b101)])) rfl (by rw [hml]; rfl) (Steps.refl _) (a := b101) (argsL := []) (rest := [(.ref b101)]) (lenOf pd_3 rfl) rfl (by show 2 * 0 + _ ≤ _; exact Nat.le_of_eq rfl) (hb hby at_108) (fun _ _ => ⟨rfl, e101, (by decide : 1 + 8 ≤ _), (by decide : 11 + 64 ≤ _)⟩)
    dsimp only [Pt.U, Pt.locs, Pt.cells, Pt.slots] at X114 l114 y114 z114 st114 hQ114
    subst l114 y114 z114
    obtain ⟨h114, e114⟩ : ∃ z, T114.heap = z := ⟨_, rfl⟩
    rw [e114] at hQ114
    obtain ⟨rfl, Nq114, Kq114, zi, zd, zs, zm, zt, zl, zh, ho, hge, H114⟩ := hQ114
    have N114 := Fr.app N0 Nq114
    have Z114 : n0 ≤ h114.size := Nat.le_trans Z101 Kq114.1
    have f115 := f102.keep Kq114 (allS ge101 all0)
    have f116 := A101.keep Kq114
    refine W.s3 (mkF m 111 #[.val (.long y1), .second, .val (.long y2), .second, .val (.long y3), .second, .val (.long y4), .second, .val (.int xs), .val (.long l1), .second, .val (.long g1), .second, .val (.long l2), .second, .val (.long g2), .second, .val (.ref sA), .unset, .unset, .unset, .unset, .unset, .unset, .unset, .unset, .unset, .unset, .unset, .unset, .unset] [(.ref b101)]) st114 ?_
    refine W.s1 (mkF m 113 #[.val (.long y1), .second, .val (.long y2), .second, .val (.long y3), .second, .val (.long y4), .second, .val (.int xs), .val (.long l1), .second, .val (.long g1), .second, .val (.long l2), .second, .val (.long g2), .second, .val (.ref sA), .val (.ref b101), .unset, .unset, .unset, .unset, .unset, .unset, .unset, .unset, .unset, .unset, .unset, .unset] []) (fun _ kx_ => XS.astore X114.here hx rfl (hb hby at_111) rfl rfl (l' := #[.val (.long y1), .second, .val (.long y2), .second, .val (.long y3), .second, .val (.long y4), .second, .val (.int xs), .val (.long l1), .second, .val (.long g1), .second, .val (.long l2), .second, .val (.long g2), .second, .val (.ref sA), .val (.ref b101), .unset, .unset, .unset, .unset, .unset, .unset, .unset, .unset, .unset, .unset, .unset, .unset]) rfl kx_) ?_
    refine W.s1 (mkF m 115 #[.val (.long y1), .second, .val (.long y2), .second, .val (.long y3), .second, .val (.long y4), .second, .val (.int xs), .val (.long l1), .second, .val (.long g1), .second, .val (.long l2), .second, .val (.long g2), .second, .val (.ref sA), .val (.ref b101), .unset, .unset, .unset, .unset, .unset, .unset, .unset, .unset, .unset, .unset, .unset, .unset] [(.ref b101)]) (fun _ kx_ => XS.aload X114.here hx rfl (hb hby at_113) rfl rfl kx_) ?_
    refine W.gets X114 hx hZ hown (host := "") (Or.inl (hw _ (List.mem_of_getElem? (i := 2) rfl))) Via.refl e114 (Sta.ext f115.2 S_VALID) (hb hby at_115) (pc' := 118) rfl (fun T128 X128 e128 => ?_)
    have Zo118 := Z114
    obtain ⟨cq129, kq129, q129a, q129b, q129c⟩ := isOf hZ e128 f116
    obtain ⟨_, _, ⟨T129, L129, k129, n129⟩, -, X129, ⟨Lc129, hQ129, l129, y129, z129⟩, st129⟩ := X128.virtualBack hx (y := (⟨"com/example/tempora/tempora/DistanceGraph", "addPoint", "(Lcom/example/tempora/tempora/PointStatus;)I"⟩ : MethodName)) (z := (⟨"com/example/tempora/tempora/DistanceGraph", "addPoint", "(Lcom/example/tempora/tempora/PointStatus;)I"⟩ : MethodName)) hown (mvT hZ (hw _ (List.mem_of_getElem? (i := 36) rfl))) (mvT hZ (hw _ (List.mem_of_getElem? (i := 37) rfl))) (notFace_of_selects (args := #[]) (mvT hZ (hw _ (List.mem_of_getElem? (i := 39) rfl)))) (mvT hZ (hw _ (List.mem_of_getElem? (i := 39) rfl))) (mvT hZ (hw _ (List.mem_of_getElem? (i := 38) rfl))) (by decide) (backOf (W := 0) (rm3 l Z a0 hw [] b101 aV zi zd zs zm zt zl zh (0 : Int32) (0 : Int32) (fun _ => Value.null) (fun _ => Value.null) (fun _ => 0) (fun _ => 0) (fun _ => 0) 0 h114 n0 Z114 H114 ho hge (Exa.ext f115.2 E_VALID) rfl (by decide)) hZ (hw _ (List.mem_of_getElem? (i := 40) rfl)) (hw _ (List.mem_of_getElem? (i := 7) rfl)) (by decide) (by decide)) q129a q129c (g := (mkF m 118 #[.val (.long y1), .second, .val (.long y2), .second, .val (.long y3), .second, .val (.long y4), .second, .val (.int xs), .val (.long l1), .second, .val (.long g1), .second, .val (.long l2), .second, .val (.long g2), .second, .val (.ref sA), .val (.ref b101), .unset, .unset, .unset, .unset, .unset, .unset, .unset, .unset, .unset, .unset, .unset, .unset] [(.ref aV), (.ref b101)])) rfl (by rw [hml]; rfl) (Steps.refl _) (argsL := [(.ref aV)]) (rest := []) (lenOf pd_4 rfl) rfl (by show 2 * 0 + _ ≤ _; exact Nat.le_of_eq rfl) (hb hby at_118) (fun _ _ => ⟨rfl, e128, (by decide : 9 + 1 ≤ _), (by decide : 75 + 0 ≤ _)⟩)
    dsimp only [Pt.U, Pt.locs, Pt.cells, Pt.slots] at X129 l129 y129 z129 st129 hQ129
    subst l129 y129 z129
    obtain ⟨h129, e129⟩ : ∃ z, T129.heap = z := ⟨_, rfl⟩
    rw [e129] at hQ129
    obtain ⟨zb0, rfl, Nq129, Kq129, hz_zb0, Ab129, H129⟩ := hQ129
    have N129 := Fr.app N114 Nq129
    have Z129 : n0 ≤ h129.size := Nat.le_trans Z114 Kq129.1
    have f130 := f115.keep Kq129 (allS ge101 (allS hge.2.1 (allS hge.2.2.2.1 all0)))
    have f131 := f116.keep Kq129
    have nb_zb0 : own_nb zb0 b101 zi zd zs zm zt zl zh := by obtain ⟨_, _, d0, _, _, _, _, _, _, _, _, _, _, d1, d2, d3, d4, d5, d6, d7⟩ := H114; exact ⟨Nat.ne_of_gt (Nat.lt_of_lt_of_le d0.lt hz_zb0), Nat.ne_of_gt (Nat.lt_of_lt_of_le d1.lt hz_zb0), Nat.ne_of_gt (Nat.lt_of_lt_of_le d2.lt hz_zb0), Nat.ne_of_gt (Nat.lt_of_lt_of_le d3.lt hz_zb0), Nat.ne_of_gt (Nat.lt_of_lt_of_le d4.lt hz_zb0), Nat.ne_of_gt (Nat.lt_of_lt_of_le d5.lt hz_zb0), Nat.ne_of_gt (Nat.lt_of_lt_of_le d6.lt hz_zb0), Nat.ne_of_gt (Nat.lt_of_lt_of_le d7.lt hz_zb0)⟩
    have gb_zb0 : n0 ≤ zb0 := Nat.le_trans Zo118 hz_zb0
    refine W.s3 (mkF m 121 #[.val (.long y1), .second, .val (.long y2), .second, .val (.long y3), .second, .val (.long y4), .second, .val (.int xs), .val (.long l1), .second, .val (.long g1), .second, .val (.long l2), .second, .val (.long g2), .second, .val (.ref sA), .val (.ref b101), .unset, .unset, .unset, .unset, .unset, .unset, .unset, .unset, .unset, .unset, .unset, .unset] [(.int (0 : Int32))]) st129 ?_
    refine W.s1 (mkF m 123 #[.val (.long y1), .second, .val (.long y2), .second, .val (.long y3), .second, .val (.long y4), .second, .val (.int xs), .val (.long l1), .second, .val (.long g1), .second, .val (.long l2), .second, .val (.long g2), .second, .val (.ref sA), .val (.ref b101), .val (.int (0 : Int32)), .unset, .unset, .unset, .unset, .unset, .unset, .unset, .unset, .unset, .unset, .unset] []) (fun _ kx_ => XS.istore X129.here hx rfl (hb hby at_121) rfl (l' := #[.val (.long y1), .second, .val (.long y2), .second, .val (.long y3), .second, .val (.long y4), .second, .val (.int xs), .val (.long l1), .second, .val (.long g1), .second, .val (.long l2), .second, .val (.long g2), .second, .val (.ref sA), .val (.ref b101), .val (.int (0 : Int32)), .unset, .unset, .unset, .unset, .unset, .unset, .unset, .unset, .unset, .unset, .unset]) rfl kx_) ?_
    refine W.s1 (mkF m 125 #[.val (.long y1), .second, .val (.long y2), .second, .val (.long y3), .second, .val (.long y4), .second, .val (.int xs), .val (.long l1), .second, .val (.long g1), .second, .val (.long l2), .second, .val (.long g2), .second, .val (.ref sA), .val (.ref b101), .val (.int (0 : Int32)), .unset, .unset, .unset, .unset, .unset, .unset, .unset, .unset, .unset, .unset, .unset] [(.ref b101)]) (fun _ kx_ => XS.aload X129.here hx rfl (hb hby at_123) rfl rfl kx_) ?_
    refine W.s1 (mkF m 127 #[.val (.long y1), .second, .val (.long y2), .second, .val (.long y3), .second, .val (.long y4), .second, .val (.int xs), .val (.long l1), .second, .val (.long g1), .second, .val (.long l2), .second, .val (.long g2), .second, .val (.ref sA), .val (.ref b101), .val (.int (0 : Int32)), .unset, .unset, .unset, .unset, .unset, .unset, .unset, .unset, .unset, .unset, .unset] [(.ref sA), (.ref b101)]) (fun _ kx_ => XS.aload X129.here hx rfl (hb hby at_125) rfl rfl kx_) ?_
    have Zo127 := Z129
    obtain ⟨cq132, kq132, q132a, q132b, q132c⟩ := isOf hZ e129 f131
    obtain ⟨_, _, ⟨T132, L132, k132, n132⟩, -, X132, ⟨Lc132, hQ132, l132, y132, z132⟩, st132⟩ := X129.virtualBack hx (y := (⟨"com/example/tempora/tempora/DistanceGraph", "addPoint", "(Lcom/example/tempora/tempora/PointStatus;)I"⟩ : MethodName)) (z := (⟨"com/example/tempora/tempora/DistanceGraph", "addPoint", "(Lcom/example/tempora/tempora/PointStatus;)I"⟩ : MethodName)) hown (mvT hZ (hw _ (List.mem_of_getElem? (i := 36) rfl))) (mvT hZ (hw _ (List.mem_of_getElem? (i := 37) rfl))) (notFace_of_selects (args := #[]) (mvT hZ (hw _ (List.mem_of_getElem? (i := 39) rfl)))) (mvT hZ (hw _ (List.mem_of_getElem? (i := 39) rfl))) (mvT hZ (hw _ (List.mem_of_getElem? (i := 38) rfl))) (by decide) (backOf (W := 0) (rm3 l Z a0 hw [] b101 sA zi zd zs zm zt zl zh (1 : Int32) (0 : Int32) (W.up (fun _ => Value.null) 0 (.ref zb0)) (W.up (fun _ => Value.null) 0 (.ref aV)) (fun _ => 0) (fun _ => 0) (fun _ => 0) 1 h129 n0 Z129 H129 ho hge (Exa.ext f130.2 EA) rfl (by decide)) hZ (hw _ (List.mem_of_getElem? (i := 40) rfl)) (hw _ (List.mem_of_getElem? (i := 7) rfl)) (by decide) (by decide)) q132a q132c (g := (mkF m 127 #[.val (.long y1), .second, .val (.long y2), .second, .val (.long y3), .second, .val (.long y4), .second, .val (.int xs), .val (.long l1), .second, .val (.long g1), .second, .val (.long l2), .second, .val (.long g2), .second, .val (.ref sA), .val (.ref b101), .val (.int (0 : Int32)), .unset, .unset, .unset, .unset, .unset, .unset, .unset, .unset, .unset, .unset, .unset] [(.ref sA), (.ref b101)])) rfl (by rw [hml]; rfl) (Steps.refl _) (argsL := [(.ref sA)]) (rest := []) (lenOf pd_4 rfl) rfl (by show 2 * 0 + _ ≤ _; exact Nat.le_of_eq rfl) (hb hby at_127) (fun _ _ => ⟨rfl, e129, (by decide : 10 + 1 ≤ _), (by decide : 75 + 0 ≤ _)⟩)
    dsimp only [Pt.U, Pt.locs, Pt.cells, Pt.slots] at X132 l132 y132 z132 st132 hQ132
    subst l132 y132 z132
    obtain ⟨h132, e132⟩ : ∃ z, T132.heap = z := ⟨_, rfl⟩
    rw [e132] at hQ132
    obtain ⟨zb1, rfl, Nq132, Kq132, hz_zb1, Ab132, H132⟩ := hQ132
    have N132 := Fr.app N129 Nq132
    have Z132 : n0 ≤ h132.size := Nat.le_trans Z129 Kq132.1
    have f133 := f130.keep Kq132 (allS ge101 (allS hge.2.1 (allS hge.2.2.2.1 all0)))
    have f134 := f131.keep Kq132
    have f135 := Ab129.keep Kq132 (ninS nb_zb0.1 (ninS nb_zb0.2.1 (ninS nb_zb0.2.2.2.1 nin0)))
    have nb_zb1 : own_nb zb1 b101 zi zd zs zm zt zl zh := by obtain ⟨_, _, d0, _, _, _, _, _, _, _, _, _, _, d1, d2, d3, d4, d5, d6, d7⟩ := H129; exact ⟨Nat.ne_of_gt (Nat.lt_of_lt_of_le d0.lt hz_zb1), Nat.ne_of_gt (Nat.lt_of_lt_of_le d1.lt hz_zb1), Nat.ne_of_gt (Nat.lt_of_lt_of_le d2.lt hz_zb1), Nat.ne_of_gt (Nat.lt_of_lt_of_le d3.lt hz_zb1), Nat.ne_of_gt (Nat.lt_of_lt_of_le d4.lt hz_zb1), Nat.ne_of_gt (Nat.lt_of_lt_of_le d5.lt hz_zb1), Nat.ne_of_gt (Nat.lt_of_lt_of_le d6.lt hz_zb1), Nat.ne_of_gt (Nat.lt_of_lt_of_le d7.lt hz_zb1)⟩
    have gb_zb1 : n0 ≤ zb1 := Nat.le_trans Zo127 hz_zb1
    have n01 : zb0 ≠ zb1 := Nat.ne_of_lt (Nat.lt_of_lt_of_le Ab129.lt hz_zb1)
    refine W.s3 (mkF m 130 #[.val (.long y1), .second, .val (.long y2), .second, .val (.long y3), .second, .val (.long y4), .second, .val (.int xs), .val (.long l1), .second, .val (.long g1), .second, .val (.long l2), .second, .val (.long g2), .second, .val (.ref sA), .val (.ref b101), .val (.int (0 : Int32)), .unset, .unset, .unset, .unset, .unset, .unset, .unset, .unset, .unset, .unset, .unset] [(.int (1 : Int32))]) st132 ?_
    refine W.s1 (mkF m 132 #[.val (.long y1), .second, .val (.long y2), .second, .val (.long y3), .second, .val (.long y4), .second, .val (.int xs), .val (.long l1), .second, .val (.long g1), .second, .val (.long l2), .second, .val (.long g2), .second, .val (.ref sA), .val (.ref b101), .val (.int (0 : Int32)), .val (.int (1 : Int32)), .unset, .unset, .unset, .unset, .unset, .unset, .unset, .unset, .unset, .unset] []) (fun _ kx_ => XS.istore X132.here hx rfl (hb hby at_130) rfl (l' := #[.val (.long y1), .second, .val (.long y2), .second, .val (.long y3), .second, .val (.long y4), .second, .val (.int xs), .val (.long l1), .second, .val (.long g1), .second, .val (.long l2), .second, .val (.long g2), .second, .val (.ref sA), .val (.ref b101), .val (.int (0 : Int32)), .val (.int (1 : Int32)), .unset, .unset, .unset, .unset, .unset, .unset, .unset, .unset, .unset, .unset]) rfl kx_) ?_
    refine W.s1 (mkF m 134 #[.val (.long y1), .second, .val (.long y2), .second, .val (.long y3), .second, .val (.long y4), .second, .val (.int xs), .val (.long l1), .second, .val (.long g1), .second, .val (.long l2), .second, .val (.long g2), .second, .val (.ref sA), .val (.ref b101), .val (.int (0 : Int32)), .val (.int (1 : Int32)), .unset, .unset, .unset, .unset, .unset, .unset, .unset, .unset, .unset, .unset] [(.ref b101)]) (fun _ kx_ => XS.aload X132.here hx rfl (hb hby at_132) rfl rfl kx_) ?_
    refine W.s1 (mkF m 136 #[.val (.long y1), .second, .val (.long y2), .second, .val (.long y3), .second, .val (.long y4), .second, .val (.int xs), .val (.long l1), .second, .val (.long g1), .second, .val (.long l2), .second, .val (.long g2), .second, .val (.ref sA), .val (.ref b101), .val (.int (0 : Int32)), .val (.int (1 : Int32)), .unset, .unset, .unset, .unset, .unset, .unset, .unset, .unset, .unset, .unset] [(.int (0 : Int32)), (.ref b101)]) (fun _ kx_ => XS.iload X132.here hx rfl (hb hby at_134) rfl kx_) ?_
    refine W.s1 (mkF m 138 #[.val (.long y1), .second, .val (.long y2), .second, .val (.long y3), .second, .val (.long y4), .second, .val (.int xs), .val (.long l1), .second, .val (.long g1), .second, .val (.long l2), .second, .val (.long g2), .second, .val (.ref sA), .val (.ref b101), .val (.int (0 : Int32)), .val (.int (1 : Int32)), .unset, .unset, .unset, .unset, .unset, .unset, .unset, .unset, .unset, .unset] [(.int (1 : Int32)), (.int (0 : Int32)), (.ref b101)]) (fun _ kx_ => XS.iload X132.here hx rfl (hb hby at_136) rfl kx_) ?_
    refine W.s1 (mkF m 140 #[.val (.long y1), .second, .val (.long y2), .second, .val (.long y3), .second, .val (.long y4), .second, .val (.int xs), .val (.long l1), .second, .val (.long g1), .second, .val (.long l2), .second, .val (.long g2), .second, .val (.ref sA), .val (.ref b101), .val (.int (0 : Int32)), .val (.int (1 : Int32)), .unset, .unset, .unset, .unset, .unset, .unset, .unset, .unset, .unset, .unset] [(.long l1), (.int (1 : Int32)), (.int (0 : Int32)), (.ref b101)]) (fun _ kx_ => XS.lload X132.here hx rfl (hb hby at_138) rfl kx_) ?_
    refine W.s1 (mkF m 142 #[.val (.long y1), .second, .val (.long y2), .second, .val (.long y3), .second, .val (.long y4), .second, .val (.int xs), .val (.long l1), .second, .val (.long g1), .second, .val (.long l2), .second, .val (.long g2), .second, .val (.ref sA), .val (.ref b101), .val (.int (0 : Int32)), .val (.int (1 : Int32)), .unset, .unset, .unset, .unset, .unset, .unset, .unset, .unset, .unset, .unset] [(.long g1), (.long l1), (.int (1 : Int32)), (.int (0 : Int32)), (.ref b101)]) (fun _ kx_ => XS.lload X132.here hx rfl (hb hby at_140) rfl kx_) ?_
    have Zo142 := Z132
    obtain ⟨cq136, kq136, q136a, q136b, q136c⟩ := isOf hZ e132 f134
    obtain ⟨_, _, ⟨T136, L136, k136, n136⟩, -, X136, ⟨Lc136, hQ136, l136, y136, z136⟩, st136⟩ := X132.virtualBack hx (y := (⟨"com/example/tempora/tempora/DistanceGraph", "addConstraint", "(IIJJ)I"⟩ : MethodName)) (z := (⟨"com/example/tempora/tempora/DistanceGraph", "addConstraint", "(IIJJ)I"⟩ : MethodName)) hown (mvT hZ (hw _ (List.mem_of_getElem? (i := 45) rfl))) (mvT hZ (hw _ (List.mem_of_getElem? (i := 46) rfl))) (notFace_of_selects (args := #[]) (mvT hZ (hw _ (List.mem_of_getElem? (i := 48) rfl)))) (mvT hZ (hw _ (List.mem_of_getElem? (i := 48) rfl))) (mvT hZ (hw _ (List.mem_of_getElem? (i := 47) rfl))) (by decide) (backOf (W := 0) (rm4a l Z a0 hw [] b101 (0 : Int32) (1 : Int32) l1 g1 zi zd zs zm zt zl zh (2 : Int32) (0 : Int32) (W.up (W.up (fun _ => Value.null) 0 (.ref zb0)) 1 (.ref zb1)) (W.up (W.up (fun _ => Value.null) 0 (.ref aV)) 1 (.ref sA)) (fun _ => 0) (fun _ => 0) (fun _ => 0) 0 1 0 zb0 (fun _ => 0) zb1 (fun _ => 0) h132 n0 Z132 H132 ho hge rfl (by decide) rfl (by decide) rfl (by decide) rfl rfl f135 nb_zb0 gb_zb0 (by decide) rfl rfl Ab132 nb_zb1 gb_zb1 n01) hZ (hw _ (List.mem_of_getElem? (i := 49) rfl)) (hw _ (List.mem_of_getElem? (i := 7) rfl)) (by decide) (by decide)) q136a q136c (g := (mkF m 142 #[.val (.long y1), .second, .val (.long y2), .second, .val (.long y3), .second, .val (.long y4), .second, .val (.int xs), .val (.long l1), .second, .val (.long g1), .second, .val (.long l2), .second, .val (.long g2), .second, .val (.ref sA), .val (.ref b101), .val (.int (0 : Int32)), .val (.int (1 : Int32)), .unset, .unset, .unset, .unset, .unset, .unset, .unset, .unset, .unset, .unset] [(.long g1), (.long l1), (.int (1 : Int32)), (.int (0 : Int32)), (.ref b101)])) rfl (by rw [hml]; rfl) (Steps.refl _) (argsL := [(.int (0 : Int32)), (.int (1 : Int32)), (.long l1), (.long g1)]) (rest := []) (lenOf pd_5 rfl) rfl (by show 2 * 0 + _ ≤ _; exact Nat.le_of_eq rfl) (hb hby at_142) (fun _ _ => ⟨rfl, e132, (by decide : 11 + 2 ≤ _), (by decide : 75 + 4 ≤ _)⟩)
    dsimp only [Pt.U, Pt.locs, Pt.cells, Pt.slots] at X136 l136 y136 z136 st136 hQ136
    subst l136 y136 z136
    obtain ⟨h136, e136⟩ : ∃ z, T136.heap = z := ⟨_, rfl⟩
    rw [e136] at hQ136
    obtain ⟨b1, b2, f1, f2, rfl, Nq136, Kq136, hb1, hb2, n12, A1136, A2136, H136⟩ := hQ136
    have N136 := Fr.app N132 Nq136
    have Z136 : n0 ≤ h136.size := Nat.le_trans Z132 Kq136.1
    have f137 := f133.keep Kq136 (allS ge101 (allS hge.2.2.2.2.1 (allS hge.2.2.2.2.2.1 (allS hge.2.2.2.2.2.2.1 (allS hge.2.2.2.2.2.2.2 (allS hge.2.1 (allS hge.2.2.1 all0)))))))
    have f138 := f134.keep Kq136
    have f139 := f135.keep Kq136 (ninS nb_zb0.1 (ninS nb_zb0.2.2.2.2.1 (ninS nb_zb0.2.2.2.2.2.1 (ninS nb_zb0.2.2.2.2.2.2.1 (ninS nb_zb0.2.2.2.2.2.2.2 (ninS nb_zb0.2.1 (ninS nb_zb0.2.2.1 nin0)))))))
    have f140 := Ab132.keep Kq136 (ninS nb_zb1.1 (ninS nb_zb1.2.2.2.2.1 (ninS nb_zb1.2.2.2.2.2.1 (ninS nb_zb1.2.2.2.2.2.2.1 (ninS nb_zb1.2.2.2.2.2.2.2 (ninS nb_zb1.2.1 (ninS nb_zb1.2.2.1 nin0)))))))
    have nb_b1 : own_nb b1 b101 zi zd zs zm zt zl zh := by obtain ⟨_, _, d0, _, _, _, _, _, _, _, _, _, _, d1, d2, d3, d4, d5, d6, d7⟩ := H132; exact ⟨Nat.ne_of_gt (Nat.lt_of_lt_of_le d0.lt hb1), Nat.ne_of_gt (Nat.lt_of_lt_of_le d1.lt hb1), Nat.ne_of_gt (Nat.lt_of_lt_of_le d2.lt hb1), Nat.ne_of_gt (Nat.lt_of_lt_of_le d3.lt hb1), Nat.ne_of_gt (Nat.lt_of_lt_of_le d4.lt hb1), Nat.ne_of_gt (Nat.lt_of_lt_of_le d5.lt hb1), Nat.ne_of_gt (Nat.lt_of_lt_of_le d6.lt hb1), Nat.ne_of_gt (Nat.lt_of_lt_of_le d7.lt hb1)⟩
    have gb_b1 : n0 ≤ b1 := Nat.le_trans Zo142 hb1
    have nb_b2 : own_nb b2 b101 zi zd zs zm zt zl zh := by obtain ⟨_, _, d0, _, _, _, _, _, _, _, _, _, _, d1, d2, d3, d4, d5, d6, d7⟩ := H132; exact ⟨Nat.ne_of_gt (Nat.lt_of_lt_of_le d0.lt hb2), Nat.ne_of_gt (Nat.lt_of_lt_of_le d1.lt hb2), Nat.ne_of_gt (Nat.lt_of_lt_of_le d2.lt hb2), Nat.ne_of_gt (Nat.lt_of_lt_of_le d3.lt hb2), Nat.ne_of_gt (Nat.lt_of_lt_of_le d4.lt hb2), Nat.ne_of_gt (Nat.lt_of_lt_of_le d5.lt hb2), Nat.ne_of_gt (Nat.lt_of_lt_of_le d6.lt hb2), Nat.ne_of_gt (Nat.lt_of_lt_of_le d7.lt hb2)⟩
    have gb_b2 : n0 ≤ b2 := Nat.le_trans Zo142 hb2
    refine W.s3 (mkF m 145 #[.val (.long y1), .second, .val (.long y2), .second, .val (.long y3), .second, .val (.long y4), .second, .val (.int xs), .val (.long l1), .second, .val (.long g1), .second, .val (.long l2), .second, .val (.long g2), .second, .val (.ref sA), .val (.ref b101), .val (.int (0 : Int32)), .val (.int (1 : Int32)), .unset, .unset, .unset, .unset, .unset, .unset, .unset, .unset, .unset, .unset] [(.int (0 : Int32))]) st136 ?_
    refine W.s1 (mkF m 147 #[.val (.long y1), .second, .val (.long y2), .second, .val (.long y3), .second, .val (.long y4), .second, .val (.int xs), .val (.long l1), .second, .val (.long g1), .second, .val (.long l2), .second, .val (.long g2), .second, .val (.ref sA), .val (.ref b101), .val (.int (0 : Int32)), .val (.int (1 : Int32)), .val (.int (0 : Int32)), .unset, .unset, .unset, .unset, .unset, .unset, .unset, .unset, .unset] []) (fun _ kx_ => XS.istore X136.here hx rfl (hb hby at_145) rfl (l' := #[.val (.long y1), .second, .val (.long y2), .second, .val (.long y3), .second, .val (.long y4), .second, .val (.int xs), .val (.long l1), .second, .val (.long g1), .second, .val (.long l2), .second, .val (.long g2), .second, .val (.ref sA), .val (.ref b101), .val (.int (0 : Int32)), .val (.int (1 : Int32)), .val (.int (0 : Int32)), .unset, .unset, .unset, .unset, .unset, .unset, .unset, .unset, .unset]) rfl kx_) ?_
    refine W.s1 (mkF m 149 #[.val (.long y1), .second, .val (.long y2), .second, .val (.long y3), .second, .val (.long y4), .second, .val (.int xs), .val (.long l1), .second, .val (.long g1), .second, .val (.long l2), .second, .val (.long g2), .second, .val (.ref sA), .val (.ref b101), .val (.int (0 : Int32)), .val (.int (1 : Int32)), .val (.int (0 : Int32)), .unset, .unset, .unset, .unset, .unset, .unset, .unset, .unset, .unset] [(.int xs)]) (fun _ kx_ => XS.iload X136.here hx rfl (hb hby at_147) rfl kx_) ?_
    refine W.s1 (mkF m 151 #[.val (.long y1), .second, .val (.long y2), .second, .val (.long y3), .second, .val (.long y4), .second, .val (.int xs), .val (.long l1), .second, .val (.long g1), .second, .val (.long l2), .second, .val (.long g2), .second, .val (.ref sA), .val (.ref b101), .val (.int (0 : Int32)), .val (.int (1 : Int32)), .val (.int (0 : Int32)), .unset, .unset, .unset, .unset, .unset, .unset, .unset, .unset, .unset] [(.int (16 : Int32)), (.int xs)]) (fun _ kx_ => XS.bipush X136.here hx rfl (hb hby at_149) kx_) ?_
    refine W.s1 (mkF m 152 #[.val (.long y1), .second, .val (.long y2), .second, .val (.long y3), .second, .val (.long y4), .second, .val (.int xs), .val (.long l1), .second, .val (.long g1), .second, .val (.long l2), .second, .val (.long g2), .second, .val (.ref sA), .val (.ref b101), .val (.int (0 : Int32)), .val (.int (1 : Int32)), .val (.int (0 : Int32)), .unset, .unset, .unset, .unset, .unset, .unset, .unset, .unset, .unset] [(.int (xs &&& (16 : Int32)))]) (fun _ kx_ => XS.iand X136.here hx rfl (hb hby at_151) rfl kx_) ?_
    refine W.ifc X136 hx (hb hby at_152) (pc' := 173) (pc'' := 155) (by decide) (by decide) rfl (fun (c152 : (xs &&& (16 : Int32)) = (0 : Int32)) => ?_) (fun (c152 : ¬ (xs &&& (16 : Int32)) = (0 : Int32)) => ?_)
    · refine W.s1 (mkF m 175 #[.val (.long y1), .second, .val (.long y2), .second, .val (.long y3), .second, .val (.long y4), .second, .val (.int xs), .val (.long l1), .second, .val (.long g1), .second, .val (.long l2), .second, .val (.long g2), .second, .val (.ref sA), .val (.ref b101), .val (.int (0 : Int32)), .val (.int (1 : Int32)), .val (.int (0 : Int32)), .unset, .unset, .unset, .unset, .unset, .unset, .unset, .unset, .unset] [(.ref b101)]) (fun _ kx_ => XS.aload X136.here hx rfl (hb hby at_173) rfl rfl kx_) ?_
      refine W.s1 (mkF m 177 #[.val (.long y1), .second, .val (.long y2), .second, .val (.long y3), .second, .val (.long y4), .second, .val (.int xs), .val (.long l1), .second, .val (.long g1), .second, .val (.long l2), .second, .val (.long g2), .second, .val (.ref sA), .val (.ref b101), .val (.int (0 : Int32)), .val (.int (1 : Int32)), .val (.int (0 : Int32)), .unset, .unset, .unset, .unset, .unset, .unset, .unset, .unset, .unset] [(.int (1 : Int32)), (.ref b101)]) (fun _ kx_ => XS.iload X136.here hx rfl (hb hby at_175) rfl kx_) ?_
      refine W.s1 (mkF m 179 #[.val (.long y1), .second, .val (.long y2), .second, .val (.long y3), .second, .val (.long y4), .second, .val (.int xs), .val (.long l1), .second, .val (.long g1), .second, .val (.long l2), .second, .val (.long g2), .second, .val (.ref sA), .val (.ref b101), .val (.int (0 : Int32)), .val (.int (1 : Int32)), .val (.int (0 : Int32)), .unset, .unset, .unset, .unset, .unset, .unset, .unset, .unset, .unset] [(.int (0 : Int32)), (.int (1 : Int32)), (.ref b101)]) (fun _ kx_ => XS.iload X136.here hx rfl (hb hby at_177) rfl kx_) ?_
      refine W.s1 (mkF m 181 #[.val (.long y1), .second, .val (.long y2), .second, .val (.long y3), .second, .val (.long y4), .second, .val (.int xs), .val (.long l1), .second, .val (.long g1), .second, .val (.long l2), .second, .val (.long g2), .second, .val (.ref sA), .val (.ref b101), .val (.int (0 : Int32)), .val (.int (1 : Int32)), .val (.int (0 : Int32)), .unset, .unset, .unset, .unset, .unset, .unset, .unset, .unset, .unset] [(.long l2), (.int (0 : Int32)), (.int (1 : Int32)), (.ref b101)]) (fun _ kx_ => XS.lload X136.here hx rfl (hb hby at_179) rfl kx_) ?_
      refine W.s1 (mkF m 183 #[.val (.long y1), .second, .val (.long y2), .second, .val (.long y3), .second, .val (.long y4), .second, .val (.int xs), .val (.long l1), .second, .val (.long g1), .second, .val (.long l2), .second, .val (.long g2), .second, .val (.ref sA), .val (.ref b101), .val (.int (0 : Int32)), .val (.int (1 : Int32)), .val (.int (0 : Int32)), .unset, .unset, .unset, .unset, .unset, .unset, .unset, .unset, .unset] [(.long g2), (.long l2), (.int (0 : Int32)), (.int (1 : Int32)), (.ref b101)]) (fun _ kx_ => XS.lload X136.here hx rfl (hb hby at_181) rfl kx_) ?_
      have Zo183 := Z136
      obtain ⟨cq141, kq141, q141a, q141b, q141c⟩ := isOf hZ e136 f138
      obtain ⟨_, _, ⟨T141, L141, k141, n141⟩, -, X141, ⟨Lc141, hQ141, l141, y141, z141⟩, st141⟩ := X136.virtualBack hx (y := (⟨"com/example/tempora/tempora/DistanceGraph", "addConstraint", "(IIJJ)I"⟩ : MethodName)) (z := (⟨"com/example/tempora/tempora/DistanceGraph", "addConstraint", "(IIJJ)I"⟩ : MethodName)) hown (mvT hZ (hw _ (List.mem_of_getElem? (i := 45) rfl))) (mvT hZ (hw _ (List.mem_of_getElem? (i := 46) rfl))) (notFace_of_selects (args := #[]) (mvT hZ (hw _ (List.mem_of_getElem? (i := 48) rfl)))) (mvT hZ (hw _ (List.mem_of_getElem? (i := 48) rfl))) (mvT hZ (hw _ (List.mem_of_getElem? (i := 47) rfl))) (by decide) (backOf (W := 0) (rm4c l Z a0 hw [] b101 (1 : Int32) (0 : Int32) l2 g2 zi zd zs zm zt zl zh (2 : Int32) (1 : Int32) (W.up (W.up (W.up (W.up (fun _ => Value.null) 0 (.ref zb0)) 1 (.ref zb1)) 0 (.ref b1)) 1 (.ref b2)) (W.up (W.up (fun _ => Value.null) 0 (.ref aV)) 1 (.ref sA)) (W.up (W.up (fun _ => 0) 0 1) 1 1) (W.up (fun _ => 0) 0 l1) (W.up (fun _ => 0) 0 g1) 1 0 1 b2 f2 b1 f1 h136 n0 Z136 H136 ho hge rfl (by decide) rfl (by decide) rfl (by decide) rfl rfl A2136 nb_b2 gb_b2 (by decide) rfl rfl A1136 nb_b1 gb_b1 (Ne.symm n12)) hZ (hw _ (List.mem_of_getElem? (i := 49) rfl)) (hw _ (List.mem_of_getElem? (i := 7) rfl)) (by decide) (by decide)) q141a q141c (g := (mkF m 183 #[.val (.long y1), .second, .val (.long y2), .second, .val (.long y3), .second, .val (.long y4), .second, .val (.int xs), .val (.long l1), .second, .val (.long g1), .second, .val (.long l2), .second, .val (.long g2), .second, .val (.ref sA), .val (.ref b101), .val (.int (0 : Int32)), .val (.int (1 : Int32)), .val (.int (0 : Int32)), .unset, .unset, .unset, .unset, .unset, .unset, .unset, .unset, .unset] [(.long g2), (.long l2), (.int (0 : Int32)), (.int (1 : Int32)), (.ref b101)])) rfl (by rw [hml]; rfl) (Steps.refl _) (argsL := [(.int (1 : Int32)), (.int (0 : Int32)), (.long l2), (.long g2)]) (rest := []) (lenOf pd_5 rfl) rfl (by show 2 * 0 + _ ≤ _; exact Nat.le_of_eq rfl) (hb hby at_183) (fun _ _ => ⟨rfl, e136, (by decide : 13 + 0 ≤ _), (by decide : 79 + 0 ≤ _)⟩)
      dsimp only [Pt.U, Pt.locs, Pt.cells, Pt.slots] at X141 l141 y141 z141 st141 hQ141
      subst l141 y141 z141
      obtain ⟨h141, e141⟩ : ∃ z, T141.heap = z := ⟨_, rfl⟩
      rw [e141] at hQ141
      obtain ⟨rfl, Nq141, Kq141, H141⟩ := hQ141
      have N141 := Fr.app N136 Nq141
      have Z141 : n0 ≤ h141.size := Nat.le_trans Z136 Kq141.1
      have f142 := f137.keep Kq141 (allS ge101 (allS hge.2.2.2.2.1 (allS hge.2.2.2.2.2.1 (allS hge.2.2.2.2.2.2.1 (allS hge.2.2.2.2.2.2.2 (allS hge.2.2.1 (allS gb_b2 (allS gb_b1 all0))))))))
      have f143 := f138.keep Kq141
      obtain ⟨_, _, _, _, _, _, _, _, Fl, Fh, _, _, _, _, _, _, _, _, Al, Ah⟩ := H141
      refine W.s3 (mkF m 186 #[.val (.long y1), .second, .val (.long y2), .second, .val (.long y3), .second, .val (.long y4), .second, .val (.int xs), .val (.long l1), .second, .val (.long g1), .second, .val (.long l2), .second, .val (.long g2), .second, .val (.ref sA), .val (.ref b101), .val (.int (0 : Int32)), .val (.int (1 : Int32)), .val (.int (0 : Int32)), .unset, .unset, .unset, .unset, .unset, .unset, .unset, .unset, .unset] [(.int (1 : Int32))]) st141 ?_
      refine W.s1 (mkF m 188 #[.val (.long y1), .second, .val (.long y2), .second, .val (.long y3), .second, .val (.long y4), .second, .val (.int xs), .val (.long l1), .second, .val (.long g1), .second, .val (.long l2), .second, .val (.long g2), .second, .val (.ref sA), .val (.ref b101), .val (.int (0 : Int32)), .val (.int (1 : Int32)), .val (.int (0 : Int32)), .val (.int (1 : Int32)), .unset, .unset, .unset, .unset, .unset, .unset, .unset, .unset] []) (fun _ kx_ => XS.istore X141.here hx rfl (hb hby at_186) rfl (l' := #[.val (.long y1), .second, .val (.long y2), .second, .val (.long y3), .second, .val (.long y4), .second, .val (.int xs), .val (.long l1), .second, .val (.long g1), .second, .val (.long l2), .second, .val (.long g2), .second, .val (.ref sA), .val (.ref b101), .val (.int (0 : Int32)), .val (.int (1 : Int32)), .val (.int (0 : Int32)), .val (.int (1 : Int32)), .unset, .unset, .unset, .unset, .unset, .unset, .unset, .unset]) rfl kx_) ?_
      refine W.s1 (mkF m 190 #[.val (.long y1), .second, .val (.long y2), .second, .val (.long y3), .second, .val (.long y4), .second, .val (.int xs), .val (.long l1), .second, .val (.long g1), .second, .val (.long l2), .second, .val (.long g2), .second, .val (.ref sA), .val (.ref b101), .val (.int (0 : Int32)), .val (.int (1 : Int32)), .val (.int (0 : Int32)), .val (.int (1 : Int32)), .unset, .unset, .unset, .unset, .unset, .unset, .unset, .unset] [(.ref b101)]) (fun _ kx_ => XS.aload X141.here hx rfl (hb hby at_188) rfl rfl kx_) ?_
      refine W.s1 (mkF m 192 #[.val (.long y1), .second, .val (.long y2), .second, .val (.long y3), .second, .val (.long y4), .second, .val (.int xs), .val (.long l1), .second, .val (.long g1), .second, .val (.long l2), .second, .val (.long g2), .second, .val (.ref sA), .val (.ref b101), .val (.int (0 : Int32)), .val (.int (1 : Int32)), .val (.int (0 : Int32)), .val (.int (1 : Int32)), .unset, .unset, .unset, .unset, .unset, .unset, .unset, .unset] [(.int (0 : Int32)), (.ref b101)]) (fun _ kx_ => XS.iload X141.here hx rfl (hb hby at_190) rfl kx_) ?_
      refine W.s1 (mkF m 193 #[.val (.long y1), .second, .val (.long y2), .second, .val (.long y3), .second, .val (.long y4), .second, .val (.int xs), .val (.long l1), .second, .val (.long g1), .second, .val (.long l2), .second, .val (.long g2), .second, .val (.ref sA), .val (.ref b101), .val (.int (0 : Int32)), .val (.int (1 : Int32)), .val (.int (0 : Int32)), .val (.int (1 : Int32)), .unset, .unset, .unset, .unset, .unset, .unset, .unset, .unset] [(.int (1 : Int32)), (.int (0 : Int32)), (.ref b101)]) (fun _ kx_ => XS.iconst X141.here hx rfl (hb hby at_192) kx_) ?_
      obtain ⟨cq146, kq146, q146a, q146b, q146c⟩ := isOf hZ e141 f143
      obtain ⟨_, _, ⟨T146, L146, k146, n146⟩, -, X146, ⟨Lc146, hQ146, l146, y146, z146⟩, st146⟩ := X141.virtualBack hx (y := (⟨"com/example/tempora/tempora/DistanceGraph", "lengthIfValid", "(IZ)J"⟩ : MethodName)) (z := (⟨"com/example/tempora/tempora/DistanceGraph", "lengthIfValid", "(IZ)J"⟩ : MethodName)) hown (mvT hZ (hw _ (List.mem_of_getElem? (i := 73) rfl))) (mvT hZ (hw _ (List.mem_of_getElem? (i := 74) rfl))) (notFace_of_selects (args := #[]) (mvT hZ (hw _ (List.mem_of_getElem? (i := 76) rfl)))) (mvT hZ (hw _ (List.mem_of_getElem? (i := 76) rfl))) (mvT hZ (hw _ (List.mem_of_getElem? (i := 75) rfl))) (by decide) (backOf (W := 0) (rm9 l Z a0 hw [] b101 (0 : Int32) (1 : Int32) zl zh (W.up (W.up (fun _ => 0) 0 l1) 1 l2) (W.up (W.up (fun _ => 0) 0 g1) 1 g2) 0 h141 n0 Z141 Fl Fh Al Ah rfl (by decide)) hZ (hw _ (List.mem_of_getElem? (i := 77) rfl)) (hw _ (List.mem_of_getElem? (i := 7) rfl)) (by decide) (by decide)) q146a q146c (g := (mkF m 193 #[.val (.long y1), .second, .val (.long y2), .second, .val (.long y3), .second, .val (.long y4), .second, .val (.int xs), .val (.long l1), .second, .val (.long g1), .second, .val (.long l2), .second, .val (.long g2), .second, .val (.ref sA), .val (.ref b101), .val (.int (0 : Int32)), .val (.int (1 : Int32)), .val (.int (0 : Int32)), .val (.int (1 : Int32)), .unset, .unset, .unset, .unset, .unset, .unset, .unset, .unset] [(.int (1 : Int32)), (.int (0 : Int32)), (.ref b101)])) rfl (by rw [hml]; rfl) (Steps.refl _) (argsL := [(.int (0 : Int32)), (.int (1 : Int32))]) (rest := []) (lenOf pd_6 rfl) rfl (by show 2 * 0 + _ ≤ _; exact Nat.le_of_eq rfl) (hb hby at_193) (fun _ _ => ⟨rfl, e141, (by decide : 13 + 0 ≤ _), (by decide : 79 + 0 ≤ _)⟩)
      dsimp only [Pt.U, Pt.locs, Pt.cells, Pt.slots] at X146 l146 y146 z146 st146 hQ146
      subst l146 y146 z146
      obtain ⟨r193, rfl, Nq146, eq146, hr193⟩ := hQ146
      have N146 := Fr.app N141 Nq146
      have hr193 : r193 = g1 := hr193.elim (fun q => q.2) (fun q => absurd q.1 (by decide))
      refine W.s3 (mkF m 196 #[.val (.long y1), .second, .val (.long y2), .second, .val (.long y3), .second, .val (.long y4), .second, .val (.int xs), .val (.long l1), .second, .val (.long g1), .second, .val (.long l2), .second, .val (.long g2), .second, .val (.ref sA), .val (.ref b101), .val (.int (0 : Int32)), .val (.int (1 : Int32)), .val (.int (0 : Int32)), .val (.int (1 : Int32)), .unset, .unset, .unset, .unset, .unset, .unset, .unset, .unset] [(.long r193)]) st146 ?_
      refine W.s1 (mkF m 198 #[.val (.long y1), .second, .val (.long y2), .second, .val (.long y3), .second, .val (.long y4), .second, .val (.int xs), .val (.long l1), .second, .val (.long g1), .second, .val (.long l2), .second, .val (.long g2), .second, .val (.ref sA), .val (.ref b101), .val (.int (0 : Int32)), .val (.int (1 : Int32)), .val (.int (0 : Int32)), .val (.int (1 : Int32)), .val (.long r193), .second, .unset, .unset, .unset, .unset, .unset, .unset] []) (fun _ kx_ => XS.lstore X146.here hx rfl (hb hby at_196) rfl (l' := #[.val (.long y1), .second, .val (.long y2), .second, .val (.long y3), .second, .val (.long y4), .second, .val (.int xs), .val (.long l1), .second, .val (.long g1), .second, .val (.long l2), .second, .val (.long g2), .second, .val (.ref sA), .val (.ref b101), .val (.int (0 : Int32)), .val (.int (1 : Int32)), .val (.int (0 : Int32)), .val (.int (1 : Int32)), .val (.long r193), .second, .unset, .unset, .unset, .unset, .unset, .unset]) rfl kx_) ?_
      refine W.s1 (mkF m 200 #[.val (.long y1), .second, .val (.long y2), .second, .val (.long y3), .second, .val (.long y4), .second, .val (.int xs), .val (.long l1), .second, .val (.long g1), .second, .val (.long l2), .second, .val (.long g2), .second, .val (.ref sA), .val (.ref b101), .val (.int (0 : Int32)), .val (.int (1 : Int32)), .val (.int (0 : Int32)), .val (.int (1 : Int32)), .val (.long r193), .second, .unset, .unset, .unset, .unset, .unset, .unset] [(.ref b101)]) (fun _ kx_ => XS.aload X146.here hx rfl (hb hby at_198) rfl rfl kx_) ?_
      refine W.s1 (mkF m 202 #[.val (.long y1), .second, .val (.long y2), .second, .val (.long y3), .second, .val (.long y4), .second, .val (.int xs), .val (.long l1), .second, .val (.long g1), .second, .val (.long l2), .second, .val (.long g2), .second, .val (.ref sA), .val (.ref b101), .val (.int (0 : Int32)), .val (.int (1 : Int32)), .val (.int (0 : Int32)), .val (.int (1 : Int32)), .val (.long r193), .second, .unset, .unset, .unset, .unset, .unset, .unset] [(.int (0 : Int32)), (.ref b101)]) (fun _ kx_ => XS.iload X146.here hx rfl (hb hby at_200) rfl kx_) ?_
      refine W.s1 (mkF m 203 #[.val (.long y1), .second, .val (.long y2), .second, .val (.long y3), .second, .val (.long y4), .second, .val (.int xs), .val (.long l1), .second, .val (.long g1), .second, .val (.long l2), .second, .val (.long g2), .second, .val (.ref sA), .val (.ref b101), .val (.int (0 : Int32)), .val (.int (1 : Int32)), .val (.int (0 : Int32)), .val (.int (1 : Int32)), .val (.long r193), .second, .unset, .unset, .unset, .unset, .unset, .unset] [(.int (0 : Int32)), (.int (0 : Int32)), (.ref b101)]) (fun _ kx_ => XS.iconst X146.here hx rfl (hb hby at_202) kx_) ?_
      obtain ⟨cq147, kq147, q147a, q147b, q147c⟩ := isOf hZ eq146 f143
      obtain ⟨_, _, ⟨T147, L147, k147, n147⟩, -, X147, ⟨Lc147, hQ147, l147, y147, z147⟩, st147⟩ := X146.virtualBack hx (y := (⟨"com/example/tempora/tempora/DistanceGraph", "lengthIfValid", "(IZ)J"⟩ : MethodName)) (z := (⟨"com/example/tempora/tempora/DistanceGraph", "lengthIfValid", "(IZ)J"⟩ : MethodName)) hown (mvT hZ (hw _ (List.mem_of_getElem? (i := 73) rfl))) (mvT hZ (hw _ (List.mem_of_getElem? (i := 74) rfl))) (notFace_of_selects (args := #[]) (mvT hZ (hw _ (List.mem_of_getElem? (i := 76) rfl)))) (mvT hZ (hw _ (List.mem_of_getElem? (i := 76) rfl))) (mvT hZ (hw _ (List.mem_of_getElem? (i := 75) rfl))) (by decide) (backOf (W := 0) (rm9 l Z a0 hw [] b101 (0 : Int32) (0 : Int32) zl zh (W.up (W.up (fun _ => 0) 0 l1) 1 l2) (W.up (W.up (fun _ => 0) 0 g1) 1 g2) 0 h141 n0 Z141 Fl Fh Al Ah rfl (by decide)) hZ (hw _ (List.mem_of_getElem? (i := 77) rfl)) (hw _ (List.mem_of_getElem? (i := 7) rfl)) (by decide) (by decide)) q147a q147c (g := (mkF m 203 #[.val (.long y1), .second, .val (.long y2), .second, .val (.long y3), .second, .val (.long y4), .second, .val (.int xs), .val (.long l1), .second, .val (.long g1), .second, .val (.long l2), .second, .val (.long g2), .second, .val (.ref sA), .val (.ref b101), .val (.int (0 : Int32)), .val (.int (1 : Int32)), .val (.int (0 : Int32)), .val (.int (1 : Int32)), .val (.long r193), .second, .unset, .unset, .unset, .unset, .unset, .unset] [(.int (0 : Int32)), (.int (0 : Int32)), (.ref b101)])) rfl (by rw [hml]; rfl) (Steps.refl _) (argsL := [(.int (0 : Int32)), (.int (0 : Int32))]) (rest := []) (lenOf pd_6 rfl) rfl (by show 2 * 0 + _ ≤ _; exact Nat.le_of_eq rfl) (hb hby at_203) (fun _ _ => ⟨rfl, eq146, (by decide : 13 + 0 ≤ _), (by decide : 79 + 0 ≤ _)⟩)
      dsimp only [Pt.U, Pt.locs, Pt.cells, Pt.slots] at X147 l147 y147 z147 st147 hQ147
      subst l147 y147 z147
      obtain ⟨r203, rfl, Nq147, eq147, hr203⟩ := hQ147
      have N147 := Fr.app N146 Nq147
      have hr203 : (l1 = (-9223372036854775808 : Int64) ∧ r203 = (9223372036854775807 : Int64)) ∨ (¬ l1 = (-9223372036854775808 : Int64) ∧ r203 = -l1) := hr203.elim (fun q => absurd rfl q.1) (fun q => q.2)
      refine W.s3 (mkF m 206 #[.val (.long y1), .second, .val (.long y2), .second, .val (.long y3), .second, .val (.long y4), .second, .val (.int xs), .val (.long l1), .second, .val (.long g1), .second, .val (.long l2), .second, .val (.long g2), .second, .val (.ref sA), .val (.ref b101), .val (.int (0 : Int32)), .val (.int (1 : Int32)), .val (.int (0 : Int32)), .val (.int (1 : Int32)), .val (.long r193), .second, .unset, .unset, .unset, .unset, .unset, .unset] [(.long r203)]) st147 ?_
      refine W.s1 (mkF m 208 #[.val (.long y1), .second, .val (.long y2), .second, .val (.long y3), .second, .val (.long y4), .second, .val (.int xs), .val (.long l1), .second, .val (.long g1), .second, .val (.long l2), .second, .val (.long g2), .second, .val (.ref sA), .val (.ref b101), .val (.int (0 : Int32)), .val (.int (1 : Int32)), .val (.int (0 : Int32)), .val (.int (1 : Int32)), .val (.long r193), .second, .val (.long r203), .second, .unset, .unset, .unset, .unset] []) (fun _ kx_ => XS.lstore X147.here hx rfl (hb hby at_206) rfl (l' := #[.val (.long y1), .second, .val (.long y2), .second, .val (.long y3), .second, .val (.long y4), .second, .val (.int xs), .val (.long l1), .second, .val (.long g1), .second, .val (.long l2), .second, .val (.long g2), .second, .val (.ref sA), .val (.ref b101), .val (.int (0 : Int32)), .val (.int (1 : Int32)), .val (.int (0 : Int32)), .val (.int (1 : Int32)), .val (.long r193), .second, .val (.long r203), .second, .unset, .unset, .unset, .unset]) rfl kx_) ?_
      refine W.s1 (mkF m 210 #[.val (.long y1), .second, .val (.long y2), .second, .val (.long y3), .second, .val (.long y4), .second, .val (.int xs), .val (.long l1), .second, .val (.long g1), .second, .val (.long l2), .second, .val (.long g2), .second, .val (.ref sA), .val (.ref b101), .val (.int (0 : Int32)), .val (.int (1 : Int32)), .val (.int (0 : Int32)), .val (.int (1 : Int32)), .val (.long r193), .second, .val (.long r203), .second, .unset, .unset, .unset, .unset] [(.ref b101)]) (fun _ kx_ => XS.aload X147.here hx rfl (hb hby at_208) rfl rfl kx_) ?_
      refine W.s1 (mkF m 212 #[.val (.long y1), .second, .val (.long y2), .second, .val (.long y3), .second, .val (.long y4), .second, .val (.int xs), .val (.long l1), .second, .val (.long g1), .second, .val (.long l2), .second, .val (.long g2), .second, .val (.ref sA), .val (.ref b101), .val (.int (0 : Int32)), .val (.int (1 : Int32)), .val (.int (0 : Int32)), .val (.int (1 : Int32)), .val (.long r193), .second, .val (.long r203), .second, .unset, .unset, .unset, .unset] [(.int (1 : Int32)), (.ref b101)]) (fun _ kx_ => XS.iload X147.here hx rfl (hb hby at_210) rfl kx_) ?_
      refine W.s1 (mkF m 213 #[.val (.long y1), .second, .val (.long y2), .second, .val (.long y3), .second, .val (.long y4), .second, .val (.int xs), .val (.long l1), .second, .val (.long g1), .second, .val (.long l2), .second, .val (.long g2), .second, .val (.ref sA), .val (.ref b101), .val (.int (0 : Int32)), .val (.int (1 : Int32)), .val (.int (0 : Int32)), .val (.int (1 : Int32)), .val (.long r193), .second, .val (.long r203), .second, .unset, .unset, .unset, .unset] [(.int (1 : Int32)), (.int (1 : Int32)), (.ref b101)]) (fun _ kx_ => XS.iconst X147.here hx rfl (hb hby at_212) kx_) ?_
      obtain ⟨cq148, kq148, q148a, q148b, q148c⟩ := isOf hZ eq147 f143
      obtain ⟨_, _, ⟨T148, L148, k148, n148⟩, -, X148, ⟨Lc148, hQ148, l148, y148, z148⟩, st148⟩ := X147.virtualBack hx (y := (⟨"com/example/tempora/tempora/DistanceGraph", "lengthIfValid", "(IZ)J"⟩ : MethodName)) (z := (⟨"com/example/tempora/tempora/DistanceGraph", "lengthIfValid", "(IZ)J"⟩ : MethodName)) hown (mvT hZ (hw _ (List.mem_of_getElem? (i := 73) rfl))) (mvT hZ (hw _ (List.mem_of_getElem? (i := 74) rfl))) (notFace_of_selects (args := #[]) (mvT hZ (hw _ (List.mem_of_getElem? (i := 76) rfl)))) (mvT hZ (hw _ (List.mem_of_getElem? (i := 76) rfl))) (mvT hZ (hw _ (List.mem_of_getElem? (i := 75) rfl))) (by decide) (backOf (W := 0) (rm9 l Z a0 hw [] b101 (1 : Int32) (1 : Int32) zl zh (W.up (W.up (fun _ => 0) 0 l1) 1 l2) (W.up (W.up (fun _ => 0) 0 g1) 1 g2) 1 h141 n0 Z141 Fl Fh Al Ah rfl (by decide)) hZ (hw _ (List.mem_of_getElem? (i := 77) rfl)) (hw _ (List.mem_of_getElem? (i := 7) rfl)) (by decide) (by decide)) q148a q148c (g := (mkF m 213 #[.val (.long y1), .second, .val (.long y2), .second, .val (.long y3), .second, .val (.long y4), .second, .val (.int xs), .val (.long l1), .second, .val (.long g1), .second, .val (.long l2), .second, .val (.long g2), .second, .val (.ref sA), .val (.ref b101), .val (.int (0 : Int32)), .val (.int (1 : Int32)), .val (.int (0 : Int32)), .val (.int (1 : Int32)), .val (.long r193), .second, .val (.long r203), .second, .unset, .unset, .unset, .unset] [(.int (1 : Int32)), (.int (1 : Int32)), (.ref b101)])) rfl (by rw [hml]; rfl) (Steps.refl _) (argsL := [(.int (1 : Int32)), (.int (1 : Int32))]) (rest := []) (lenOf pd_6 rfl) rfl (by show 2 * 0 + _ ≤ _; exact Nat.le_of_eq rfl) (hb hby at_213) (fun _ _ => ⟨rfl, eq147, (by decide : 13 + 0 ≤ _), (by decide : 79 + 0 ≤ _)⟩)
      dsimp only [Pt.U, Pt.locs, Pt.cells, Pt.slots] at X148 l148 y148 z148 st148 hQ148
      subst l148 y148 z148
      obtain ⟨r213, rfl, Nq148, eq148, hr213⟩ := hQ148
      have N148 := Fr.app N147 Nq148
      have hr213 : r213 = g2 := hr213.elim (fun q => q.2) (fun q => absurd q.1 (by decide))
      refine W.s3 (mkF m 216 #[.val (.long y1), .second, .val (.long y2), .second, .val (.long y3), .second, .val (.long y4), .second, .val (.int xs), .val (.long l1), .second, .val (.long g1), .second, .val (.long l2), .second, .val (.long g2), .second, .val (.ref sA), .val (.ref b101), .val (.int (0 : Int32)), .val (.int (1 : Int32)), .val (.int (0 : Int32)), .val (.int (1 : Int32)), .val (.long r193), .second, .val (.long r203), .second, .unset, .unset, .unset, .unset] [(.long r213)]) st148 ?_
      refine W.s1 (mkF m 218 #[.val (.long y1), .second, .val (.long y2), .second, .val (.long y3), .second, .val (.long y4), .second, .val (.int xs), .val (.long l1), .second, .val (.long g1), .second, .val (.long l2), .second, .val (.long g2), .second, .val (.ref sA), .val (.ref b101), .val (.int (0 : Int32)), .val (.int (1 : Int32)), .val (.int (0 : Int32)), .val (.int (1 : Int32)), .val (.long r193), .second, .val (.long r203), .second, .val (.long r213), .second, .unset, .unset] []) (fun _ kx_ => XS.lstore X148.here hx rfl (hb hby at_216) rfl (l' := #[.val (.long y1), .second, .val (.long y2), .second, .val (.long y3), .second, .val (.long y4), .second, .val (.int xs), .val (.long l1), .second, .val (.long g1), .second, .val (.long l2), .second, .val (.long g2), .second, .val (.ref sA), .val (.ref b101), .val (.int (0 : Int32)), .val (.int (1 : Int32)), .val (.int (0 : Int32)), .val (.int (1 : Int32)), .val (.long r193), .second, .val (.long r203), .second, .val (.long r213), .second, .unset, .unset]) rfl kx_) ?_
      refine W.s1 (mkF m 220 #[.val (.long y1), .second, .val (.long y2), .second, .val (.long y3), .second, .val (.long y4), .second, .val (.int xs), .val (.long l1), .second, .val (.long g1), .second, .val (.long l2), .second, .val (.long g2), .second, .val (.ref sA), .val (.ref b101), .val (.int (0 : Int32)), .val (.int (1 : Int32)), .val (.int (0 : Int32)), .val (.int (1 : Int32)), .val (.long r193), .second, .val (.long r203), .second, .val (.long r213), .second, .unset, .unset] [(.ref b101)]) (fun _ kx_ => XS.aload X148.here hx rfl (hb hby at_218) rfl rfl kx_) ?_
      refine W.s1 (mkF m 222 #[.val (.long y1), .second, .val (.long y2), .second, .val (.long y3), .second, .val (.long y4), .second, .val (.int xs), .val (.long l1), .second, .val (.long g1), .second, .val (.long l2), .second, .val (.long g2), .second, .val (.ref sA), .val (.ref b101), .val (.int (0 : Int32)), .val (.int (1 : Int32)), .val (.int (0 : Int32)), .val (.int (1 : Int32)), .val (.long r193), .second, .val (.long r203), .second, .val (.long r213), .second, .unset, .unset] [(.int (1 : Int32)), (.ref b101)]) (fun _ kx_ => XS.iload X148.here hx rfl (hb hby at_220) rfl kx_) ?_
      refine W.s1 (mkF m 223 #[.val (.long y1), .second, .val (.long y2), .second, .val (.long y3), .second, .val (.long y4), .second, .val (.int xs), .val (.long l1), .second, .val (.long g1), .second, .val (.long l2), .second, .val (.long g2), .second, .val (.ref sA), .val (.ref b101), .val (.int (0 : Int32)), .val (.int (1 : Int32)), .val (.int (0 : Int32)), .val (.int (1 : Int32)), .val (.long r193), .second, .val (.long r203), .second, .val (.long r213), .second, .unset, .unset] [(.int (0 : Int32)), (.int (1 : Int32)), (.ref b101)]) (fun _ kx_ => XS.iconst X148.here hx rfl (hb hby at_222) kx_) ?_
      obtain ⟨cq149, kq149, q149a, q149b, q149c⟩ := isOf hZ eq148 f143
      obtain ⟨_, _, ⟨T149, L149, k149, n149⟩, -, X149, ⟨Lc149, hQ149, l149, y149, z149⟩, st149⟩ := X148.virtualBack hx (y := (⟨"com/example/tempora/tempora/DistanceGraph", "lengthIfValid", "(IZ)J"⟩ : MethodName)) (z := (⟨"com/example/tempora/tempora/DistanceGraph", "lengthIfValid", "(IZ)J"⟩ : MethodName)) hown (mvT hZ (hw _ (List.mem_of_getElem? (i := 73) rfl))) (mvT hZ (hw _ (List.mem_of_getElem? (i := 74) rfl))) (notFace_of_selects (args := #[]) (mvT hZ (hw _ (List.mem_of_getElem? (i := 76) rfl)))) (mvT hZ (hw _ (List.mem_of_getElem? (i := 76) rfl))) (mvT hZ (hw _ (List.mem_of_getElem? (i := 75) rfl))) (by decide) (backOf (W := 0) (rm9 l Z a0 hw [] b101 (1 : Int32) (0 : Int32) zl zh (W.up (W.up (fun _ => 0) 0 l1) 1 l2) (W.up (W.up (fun _ => 0) 0 g1) 1 g2) 1 h141 n0 Z141 Fl Fh Al Ah rfl (by decide)) hZ (hw _ (List.mem_of_getElem? (i := 77) rfl)) (hw _ (List.mem_of_getElem? (i := 7) rfl)) (by decide) (by decide)) q149a q149c (g := (mkF m 223 #[.val (.long y1), .second, .val (.long y2), .second, .val (.long y3), .second, .val (.long y4), .second, .val (.int xs), .val (.long l1), .second, .val (.long g1), .second, .val (.long l2), .second, .val (.long g2), .second, .val (.ref sA), .val (.ref b101), .val (.int (0 : Int32)), .val (.int (1 : Int32)), .val (.int (0 : Int32)), .val (.int (1 : Int32)), .val (.long r193), .second, .val (.long r203), .second, .val (.long r213), .second, .unset, .unset] [(.int (0 : Int32)), (.int (1 : Int32)), (.ref b101)])) rfl (by rw [hml]; rfl) (Steps.refl _) (argsL := [(.int (1 : Int32)), (.int (0 : Int32))]) (rest := []) (lenOf pd_6 rfl) rfl (by show 2 * 0 + _ ≤ _; exact Nat.le_of_eq rfl) (hb hby at_223) (fun _ _ => ⟨rfl, eq148, (by decide : 13 + 0 ≤ _), (by decide : 79 + 0 ≤ _)⟩)
      dsimp only [Pt.U, Pt.locs, Pt.cells, Pt.slots] at X149 l149 y149 z149 st149 hQ149
      subst l149 y149 z149
      obtain ⟨r223, rfl, Nq149, eq149, hr223⟩ := hQ149
      have N149 := Fr.app N148 Nq149
      have hr223 : (l2 = (-9223372036854775808 : Int64) ∧ r223 = (9223372036854775807 : Int64)) ∨ (¬ l2 = (-9223372036854775808 : Int64) ∧ r223 = -l2) := hr223.elim (fun q => absurd rfl q.1) (fun q => q.2)
      refine W.s3 (mkF m 226 #[.val (.long y1), .second, .val (.long y2), .second, .val (.long y3), .second, .val (.long y4), .second, .val (.int xs), .val (.long l1), .second, .val (.long g1), .second, .val (.long l2), .second, .val (.long g2), .second, .val (.ref sA), .val (.ref b101), .val (.int (0 : Int32)), .val (.int (1 : Int32)), .val (.int (0 : Int32)), .val (.int (1 : Int32)), .val (.long r193), .second, .val (.long r203), .second, .val (.long r213), .second, .unset, .unset] [(.long r223)]) st149 ?_
      refine W.s1 (mkF m 228 #[.val (.long y1), .second, .val (.long y2), .second, .val (.long y3), .second, .val (.long y4), .second, .val (.int xs), .val (.long l1), .second, .val (.long g1), .second, .val (.long l2), .second, .val (.long g2), .second, .val (.ref sA), .val (.ref b101), .val (.int (0 : Int32)), .val (.int (1 : Int32)), .val (.int (0 : Int32)), .val (.int (1 : Int32)), .val (.long r193), .second, .val (.long r203), .second, .val (.long r213), .second, .val (.long r223), .second] []) (fun _ kx_ => XS.lstore X149.here hx rfl (hb hby at_226) rfl (l' := #[.val (.long y1), .second, .val (.long y2), .second, .val (.long y3), .second, .val (.long y4), .second, .val (.int xs), .val (.long l1), .second, .val (.long g1), .second, .val (.long l2), .second, .val (.long g2), .second, .val (.ref sA), .val (.ref b101), .val (.int (0 : Int32)), .val (.int (1 : Int32)), .val (.int (0 : Int32)), .val (.int (1 : Int32)), .val (.long r193), .second, .val (.long r203), .second, .val (.long r213), .second, .val (.long r223), .second]) rfl kx_) ?_
      refine W.s1 (mkF m 230 #[.val (.long y1), .second, .val (.long y2), .second, .val (.long y3), .second, .val (.long y4), .second, .val (.int xs), .val (.long l1), .second, .val (.long g1), .second, .val (.long l2), .second, .val (.long g2), .second, .val (.ref sA), .val (.ref b101), .val (.int (0 : Int32)), .val (.int (1 : Int32)), .val (.int (0 : Int32)), .val (.int (1 : Int32)), .val (.long r193), .second, .val (.long r203), .second, .val (.long r213), .second, .val (.long r223), .second] [(.long r193)]) (fun _ kx_ => XS.lload X149.here hx rfl (hb hby at_228) rfl kx_) ?_
      refine W.s1 (mkF m 232 #[.val (.long y1), .second, .val (.long y2), .second, .val (.long y3), .second, .val (.long y4), .second, .val (.int xs), .val (.long l1), .second, .val (.long g1), .second, .val (.long l2), .second, .val (.long g2), .second, .val (.ref sA), .val (.ref b101), .val (.int (0 : Int32)), .val (.int (1 : Int32)), .val (.int (0 : Int32)), .val (.int (1 : Int32)), .val (.long r193), .second, .val (.long r203), .second, .val (.long r213), .second, .val (.long r223), .second] [(.long g1), (.long r193)]) (fun _ kx_ => XS.lload X149.here hx rfl (hb hby at_230) rfl kx_) ?_
      obtain ⟨_, _, ⟨T150, L150, k150, n150⟩, -, X150, ⟨Lc150, hQ150, l150, y150, z150⟩, st150⟩ := Jvm.LawKit.callS X149 hx (y := (⟨"com/example/tempora/tempora/DistanceGraphLengthIfValidPinLaw", "fromOk", "(JJ)Z"⟩ : MethodName)) hown (mvT hZ (hw _ (List.mem_of_getElem? (i := 80) rfl))) (mvT hZ (hw _ (List.mem_of_getElem? (i := 81) rfl))) (mvT hZ (hw _ (List.mem_of_getElem? (i := 82) rfl))) (mvT hZ (hw _ (List.mem_of_getElem? (i := 83) rfl))) (by decide) (backOf (W := 0) (rm10 l Z a0 hw [] r193 g1 h141 n0 Z141 hr193) hZ (hw _ (List.mem_of_getElem? (i := 83) rfl)) (hw _ (List.mem_of_getElem? (i := 82) rfl)) (by decide) (by decide)) (g := (mkF m 232 #[.val (.long y1), .second, .val (.long y2), .second, .val (.long y3), .second, .val (.long y4), .second, .val (.int xs), .val (.long l1), .second, .val (.long g1), .second, .val (.long l2), .second, .val (.long g2), .second, .val (.ref sA), .val (.ref b101), .val (.int (0 : Int32)), .val (.int (1 : Int32)), .val (.int (0 : Int32)), .val (.int (1 : Int32)), .val (.long r193), .second, .val (.long r203), .second, .val (.long r213), .second, .val (.long r223), .second] [(.long g1), (.long r193)])) rfl (by rw [hml]; rfl) (argsL := [(.long r193), (.long g1)]) (rest := []) (lenOf pd_7 rfl) rfl (by show 2 * 0 + _ ≤ _; exact Nat.le_of_eq rfl) (hb hby at_232) (fun _ _ => ⟨rfl, eq149, (by decide : 13 + 0 ≤ _), (by decide : 79 + 0 ≤ _)⟩)
      dsimp only [Pt.U, Pt.locs, Pt.cells, Pt.slots] at X150 l150 y150 z150 st150 hQ150
      subst l150 y150 z150
      obtain ⟨rfl, Nq150, eq150⟩ := hQ150
      have N150 := Fr.app N149 Nq150
      refine W.s2 (mkF m 235 #[.val (.long y1), .second, .val (.long y2), .second, .val (.long y3), .second, .val (.long y4), .second, .val (.int xs), .val (.long l1), .second, .val (.long g1), .second, .val (.long l2), .second, .val (.long g2), .second, .val (.ref sA), .val (.ref b101), .val (.int (0 : Int32)), .val (.int (1 : Int32)), .val (.int (0 : Int32)), .val (.int (1 : Int32)), .val (.long r193), .second, .val (.long r203), .second, .val (.long r213), .second, .val (.long r223), .second] [(.int (1 : Int32))]) st150 ?_
      refine W.ifc X150 hx (hb hby at_235) (pc' := 272) (pc'' := 238) (by decide) (by decide) rfl (fun (c235 : (1 : Int32) = (0 : Int32)) => ?_) (fun (c235 : ¬ (1 : Int32) = (0 : Int32)) => ?_)
      · exact absurd c235 (by decide)
      · refine W.s1 (mkF m 240 #[.val (.long y1), .second, .val (.long y2), .second, .val (.long y3), .second, .val (.long y4), .second, .val (.int xs), .val (.long l1), .second, .val (.long g1), .second, .val (.long l2), .second, .val (.long g2), .second, .val (.ref sA), .val (.ref b101), .val (.int (0 : Int32)), .val (.int (1 : Int32)), .val (.int (0 : Int32)), .val (.int (1 : Int32)), .val (.long r193), .second, .val (.long r203), .second, .val (.long r213), .second, .val (.long r223), .second] [(.long r203)]) (fun _ kx_ => XS.lload X150.here hx rfl (hb hby at_238) rfl kx_) ?_
        refine W.s1 (mkF m 242 #[.val (.long y1), .second, .val (.long y2), .second, .val (.long y3), .second, .val (.long y4), .second, .val (.int xs), .val (.long l1), .second, .val (.long g1), .second, .val (.long l2), .second, .val (.long g2), .second, .val (.ref sA), .val (.ref b101), .val (.int (0 : Int32)), .val (.int (1 : Int32)), .val (.int (0 : Int32)), .val (.int (1 : Int32)), .val (.long r193), .second, .val (.long r203), .second, .val (.long r213), .second, .val (.long r223), .second] [(.long l1), (.long r203)]) (fun _ kx_ => XS.lload X150.here hx rfl (hb hby at_240) rfl kx_) ?_
        obtain ⟨_, _, ⟨T151, L151, k151, n151⟩, -, X151, ⟨Lc151, hQ151, l151, y151, z151⟩, st151⟩ := Jvm.LawKit.callS X150 hx (y := (⟨"com/example/tempora/tempora/DistanceGraphLengthIfValidPinLaw", "toOk", "(JJ)Z"⟩ : MethodName)) hown (mvT hZ (hw _ (List.mem_of_getElem? (i := 84) rfl))) (mvT hZ (hw _ (List.mem_of_getElem? (i := 85) rfl))) (mvT hZ (hw _ (List.mem_of_getElem? (i := 82) rfl))) (mvT hZ (hw _ (List.mem_of_getElem? (i := 86) rfl))) (by decide) (backOf (W := 0) (rm11 l Z a0 hw [] r203 l1 h141 n0 Z141 hr203) hZ (hw _ (List.mem_of_getElem? (i := 86) rfl)) (hw _ (List.mem_of_getElem? (i := 82) rfl)) (by decide) (by decide)) (g := (mkF m 242 #[.val (.long y1), .second, .val (.long y2), .second, .val (.long y3), .second, .val (.long y4), .second, .val (.int xs), .val (.long l1), .second, .val (.long g1), .second, .val (.long l2), .second, .val (.long g2), .second, .val (.ref sA), .val (.ref b101), .val (.int (0 : Int32)), .val (.int (1 : Int32)), .val (.int (0 : Int32)), .val (.int (1 : Int32)), .val (.long r193), .second, .val (.long r203), .second, .val (.long r213), .second, .val (.long r223), .second] [(.long l1), (.long r203)])) rfl (by rw [hml]; rfl) (argsL := [(.long r203), (.long l1)]) (rest := []) (lenOf pd_7 rfl) rfl (by show 2 * 0 + _ ≤ _; exact Nat.le_of_eq rfl) (hb hby at_242) (fun _ _ => ⟨rfl, eq150, (by decide : 13 + 0 ≤ _), (by decide : 79 + 0 ≤ _)⟩)
        dsimp only [Pt.U, Pt.locs, Pt.cells, Pt.slots] at X151 l151 y151 z151 st151 hQ151
        subst l151 y151 z151
        obtain ⟨rfl, Nq151, eq151⟩ := hQ151
        have N151 := Fr.app N150 Nq151
        refine W.s2 (mkF m 245 #[.val (.long y1), .second, .val (.long y2), .second, .val (.long y3), .second, .val (.long y4), .second, .val (.int xs), .val (.long l1), .second, .val (.long g1), .second, .val (.long l2), .second, .val (.long g2), .second, .val (.ref sA), .val (.ref b101), .val (.int (0 : Int32)), .val (.int (1 : Int32)), .val (.int (0 : Int32)), .val (.int (1 : Int32)), .val (.long r193), .second, .val (.long r203), .second, .val (.long r213), .second, .val (.long r223), .second] [(.int (1 : Int32))]) st151 ?_
        refine W.ifc X151 hx (hb hby at_245) (pc' := 272) (pc'' := 248) (by decide) (by decide) rfl (fun (c245 : (1 : Int32) = (0 : Int32)) => ?_) (fun (c245 : ¬ (1 : Int32) = (0 : Int32)) => ?_)
        · exact absurd c245 (by decide)
        · refine W.s1 (mkF m 250 #[.val (.long y1), .second, .val (.long y2), .second, .val (.long y3), .second, .val (.long y4), .second, .val (.int xs), .val (.long l1), .second, .val (.long g1), .second, .val (.long l2), .second, .val (.long g2), .second, .val (.ref sA), .val (.ref b101), .val (.int (0 : Int32)), .val (.int (1 : Int32)), .val (.int (0 : Int32)), .val (.int (1 : Int32)), .val (.long r193), .second, .val (.long r203), .second, .val (.long r213), .second, .val (.long r223), .second] [(.long r213)]) (fun _ kx_ => XS.lload X151.here hx rfl (hb hby at_248) rfl kx_) ?_
          refine W.s1 (mkF m 252 #[.val (.long y1), .second, .val (.long y2), .second, .val (.long y3), .second, .val (.long y4), .second, .val (.int xs), .val (.long l1), .second, .val (.long g1), .second, .val (.long l2), .second, .val (.long g2), .second, .val (.ref sA), .val (.ref b101), .val (.int (0 : Int32)), .val (.int (1 : Int32)), .val (.int (0 : Int32)), .val (.int (1 : Int32)), .val (.long r193), .second, .val (.long r203), .second, .val (.long r213), .second, .val (.long r223), .second] [(.long g2), (.long r213)]) (fun _ kx_ => XS.lload X151.here hx rfl (hb hby at_250) rfl kx_) ?_
          obtain ⟨_, _, ⟨T152, L152, k152, n152⟩, -, X152, ⟨Lc152, hQ152, l152, y152, z152⟩, st152⟩ := Jvm.LawKit.callS X151 hx (y := (⟨"com/example/tempora/tempora/DistanceGraphLengthIfValidPinLaw", "fromOk", "(JJ)Z"⟩ : MethodName)) hown (mvT hZ (hw _ (List.mem_of_getElem? (i := 80) rfl))) (mvT hZ (hw _ (List.mem_of_getElem? (i := 81) rfl))) (mvT hZ (hw _ (List.mem_of_getElem? (i := 82) rfl))) (mvT hZ (hw _ (List.mem_of_getElem? (i := 83) rfl))) (by decide) (backOf (W := 0) (rm10 l Z a0 hw [] r213 g2 h141 n0 Z141 hr213) hZ (hw _ (List.mem_of_getElem? (i := 83) rfl)) (hw _ (List.mem_of_getElem? (i := 82) rfl)) (by decide) (by decide)) (g := (mkF m 252 #[.val (.long y1), .second, .val (.long y2), .second, .val (.long y3), .second, .val (.long y4), .second, .val (.int xs), .val (.long l1), .second, .val (.long g1), .second, .val (.long l2), .second, .val (.long g2), .second, .val (.ref sA), .val (.ref b101), .val (.int (0 : Int32)), .val (.int (1 : Int32)), .val (.int (0 : Int32)), .val (.int (1 : Int32)), .val (.long r193), .second, .val (.long r203), .second, .val (.long r213), .second, .val (.long r223), .second] [(.long g2), (.long r213)])) rfl (by rw [hml]; rfl) (argsL := [(.long r213), (.long g2)]) (rest := []) (lenOf pd_7 rfl) rfl (by show 2 * 0 + _ ≤ _; exact Nat.le_of_eq rfl) (hb hby at_252) (fun _ _ => ⟨rfl, eq151, (by decide : 13 + 0 ≤ _), (by decide : 79 + 0 ≤ _)⟩)
          dsimp only [Pt.U, Pt.locs, Pt.cells, Pt.slots] at X152 l152 y152 z152 st152 hQ152
          subst l152 y152 z152
          obtain ⟨rfl, Nq152, eq152⟩ := hQ152
          have N152 := Fr.app N151 Nq152
          refine W.s2 (mkF m 255 #[.val (.long y1), .second, .val (.long y2), .second, .val (.long y3), .second, .val (.long y4), .second, .val (.int xs), .val (.long l1), .second, .val (.long g1), .second, .val (.long l2), .second, .val (.long g2), .second, .val (.ref sA), .val (.ref b101), .val (.int (0 : Int32)), .val (.int (1 : Int32)), .val (.int (0 : Int32)), .val (.int (1 : Int32)), .val (.long r193), .second, .val (.long r203), .second, .val (.long r213), .second, .val (.long r223), .second] [(.int (1 : Int32))]) st152 ?_
          refine W.ifc X152 hx (hb hby at_255) (pc' := 272) (pc'' := 258) (by decide) (by decide) rfl (fun (c255 : (1 : Int32) = (0 : Int32)) => ?_) (fun (c255 : ¬ (1 : Int32) = (0 : Int32)) => ?_)
          · exact absurd c255 (by decide)
          · refine W.s1 (mkF m 260 #[.val (.long y1), .second, .val (.long y2), .second, .val (.long y3), .second, .val (.long y4), .second, .val (.int xs), .val (.long l1), .second, .val (.long g1), .second, .val (.long l2), .second, .val (.long g2), .second, .val (.ref sA), .val (.ref b101), .val (.int (0 : Int32)), .val (.int (1 : Int32)), .val (.int (0 : Int32)), .val (.int (1 : Int32)), .val (.long r193), .second, .val (.long r203), .second, .val (.long r213), .second, .val (.long r223), .second] [(.long r223)]) (fun _ kx_ => XS.lload X152.here hx rfl (hb hby at_258) rfl kx_) ?_
            refine W.s1 (mkF m 262 #[.val (.long y1), .second, .val (.long y2), .second, .val (.long y3), .second, .val (.long y4), .second, .val (.int xs), .val (.long l1), .second, .val (.long g1), .second, .val (.long l2), .second, .val (.long g2), .second, .val (.ref sA), .val (.ref b101), .val (.int (0 : Int32)), .val (.int (1 : Int32)), .val (.int (0 : Int32)), .val (.int (1 : Int32)), .val (.long r193), .second, .val (.long r203), .second, .val (.long r213), .second, .val (.long r223), .second] [(.long l2), (.long r223)]) (fun _ kx_ => XS.lload X152.here hx rfl (hb hby at_260) rfl kx_) ?_
            obtain ⟨_, _, ⟨T153, L153, k153, n153⟩, -, X153, ⟨Lc153, hQ153, l153, y153, z153⟩, st153⟩ := Jvm.LawKit.callS X152 hx (y := (⟨"com/example/tempora/tempora/DistanceGraphLengthIfValidPinLaw", "toOk", "(JJ)Z"⟩ : MethodName)) hown (mvT hZ (hw _ (List.mem_of_getElem? (i := 84) rfl))) (mvT hZ (hw _ (List.mem_of_getElem? (i := 85) rfl))) (mvT hZ (hw _ (List.mem_of_getElem? (i := 82) rfl))) (mvT hZ (hw _ (List.mem_of_getElem? (i := 86) rfl))) (by decide) (backOf (W := 0) (rm11 l Z a0 hw [] r223 l2 h141 n0 Z141 hr223) hZ (hw _ (List.mem_of_getElem? (i := 86) rfl)) (hw _ (List.mem_of_getElem? (i := 82) rfl)) (by decide) (by decide)) (g := (mkF m 262 #[.val (.long y1), .second, .val (.long y2), .second, .val (.long y3), .second, .val (.long y4), .second, .val (.int xs), .val (.long l1), .second, .val (.long g1), .second, .val (.long l2), .second, .val (.long g2), .second, .val (.ref sA), .val (.ref b101), .val (.int (0 : Int32)), .val (.int (1 : Int32)), .val (.int (0 : Int32)), .val (.int (1 : Int32)), .val (.long r193), .second, .val (.long r203), .second, .val (.long r213), .second, .val (.long r223), .second] [(.long l2), (.long r223)])) rfl (by rw [hml]; rfl) (argsL := [(.long r223), (.long l2)]) (rest := []) (lenOf pd_7 rfl) rfl (by show 2 * 0 + _ ≤ _; exact Nat.le_of_eq rfl) (hb hby at_262) (fun _ _ => ⟨rfl, eq152, (by decide : 13 + 0 ≤ _), (by decide : 79 + 0 ≤ _)⟩)
            dsimp only [Pt.U, Pt.locs, Pt.cells, Pt.slots] at X153 l153 y153 z153 st153 hQ153
            subst l153 y153 z153
            obtain ⟨rfl, Nq153, eq153⟩ := hQ153
            have N153 := Fr.app N152 Nq153
            refine W.s2 (mkF m 265 #[.val (.long y1), .second, .val (.long y2), .second, .val (.long y3), .second, .val (.long y4), .second, .val (.int xs), .val (.long l1), .second, .val (.long g1), .second, .val (.long l2), .second, .val (.long g2), .second, .val (.ref sA), .val (.ref b101), .val (.int (0 : Int32)), .val (.int (1 : Int32)), .val (.int (0 : Int32)), .val (.int (1 : Int32)), .val (.long r193), .second, .val (.long r203), .second, .val (.long r213), .second, .val (.long r223), .second] [(.int (1 : Int32))]) st153 ?_
            refine W.ifc X153 hx (hb hby at_265) (pc' := 272) (pc'' := 268) (by decide) (by decide) rfl (fun (c265 : (1 : Int32) = (0 : Int32)) => ?_) (fun (c265 : ¬ (1 : Int32) = (0 : Int32)) => ?_)
            · exact absurd c265 (by decide)
            · refine W.s1 (mkF m 269 #[.val (.long y1), .second, .val (.long y2), .second, .val (.long y3), .second, .val (.long y4), .second, .val (.int xs), .val (.long l1), .second, .val (.long g1), .second, .val (.long l2), .second, .val (.long g2), .second, .val (.ref sA), .val (.ref b101), .val (.int (0 : Int32)), .val (.int (1 : Int32)), .val (.int (0 : Int32)), .val (.int (1 : Int32)), .val (.long r193), .second, .val (.long r203), .second, .val (.long r213), .second, .val (.long r223), .second] [(.int (1 : Int32))]) (fun _ kx_ => XS.iconst X153.here hx rfl (hb hby at_268) kx_) ?_
              refine W.s1 (mkF m 273 #[.val (.long y1), .second, .val (.long y2), .second, .val (.long y3), .second, .val (.long y4), .second, .val (.int xs), .val (.long l1), .second, .val (.long g1), .second, .val (.long l2), .second, .val (.long g2), .second, .val (.ref sA), .val (.ref b101), .val (.int (0 : Int32)), .val (.int (1 : Int32)), .val (.int (0 : Int32)), .val (.int (1 : Int32)), .val (.long r193), .second, .val (.long r203), .second, .val (.long r213), .second, .val (.long r223), .second] [(.int (1 : Int32))]) (fun _ kx_ => XS.goto X153.here hx rfl (pc0 := 269) (pc' := 273) rfl (hb hby at_269) (by decide) (by decide) kx_) ?_
              exact W.retZ X153 hx hlk (t := .boolean) (z' := (1 : Int32)) Bd.returns (by simp) (hb hby at_273) rfl (by show Q0 Z y1 y2 y3 y4 xs aV aI aU h0 n0 _ T153.heap _; rw [eq153]; exact ⟨rfl, N153⟩) (by decide) (by decide)
    · refine W.s1 (mkF m 157 #[.val (.long y1), .second, .val (.long y2), .second, .val (.long y3), .second, .val (.long y4), .second, .val (.int xs), .val (.long l1), .second, .val (.long g1), .second, .val (.long l2), .second, .val (.long g2), .second, .val (.ref sA), .val (.ref b101), .val (.int (0 : Int32)), .val (.int (1 : Int32)), .val (.int (0 : Int32)), .unset, .unset, .unset, .unset, .unset, .unset, .unset, .unset, .unset] [(.ref b101)]) (fun _ kx_ => XS.aload X136.here hx rfl (hb hby at_155) rfl rfl kx_) ?_
      refine W.s1 (mkF m 159 #[.val (.long y1), .second, .val (.long y2), .second, .val (.long y3), .second, .val (.long y4), .second, .val (.int xs), .val (.long l1), .second, .val (.long g1), .second, .val (.long l2), .second, .val (.long g2), .second, .val (.ref sA), .val (.ref b101), .val (.int (0 : Int32)), .val (.int (1 : Int32)), .val (.int (0 : Int32)), .unset, .unset, .unset, .unset, .unset, .unset, .unset, .unset, .unset] [(.int (1 : Int32)), (.ref b101)]) (fun _ kx_ => XS.iload X136.here hx rfl (hb hby at_157) rfl kx_) ?_
      refine W.s1 (mkF m 161 #[.val (.long y1), .second, .val (.long y2), .second, .val (.long y3), .second, .val (.long y4), .second, .val (.int xs), .val (.long l1), .second, .val (.long g1), .second, .val (.long l2), .second, .val (.long g2), .second, .val (.ref sA), .val (.ref b101), .val (.int (0 : Int32)), .val (.int (1 : Int32)), .val (.int (0 : Int32)), .unset, .unset, .unset, .unset, .unset, .unset, .unset, .unset, .unset] [(.int (1 : Int32)), (.int (1 : Int32)), (.ref b101)]) (fun _ kx_ => XS.iload X136.here hx rfl (hb hby at_159) rfl kx_) ?_
      refine W.s1 (mkF m 163 #[.val (.long y1), .second, .val (.long y2), .second, .val (.long y3), .second, .val (.long y4), .second, .val (.int xs), .val (.long l1), .second, .val (.long g1), .second, .val (.long l2), .second, .val (.long g2), .second, .val (.ref sA), .val (.ref b101), .val (.int (0 : Int32)), .val (.int (1 : Int32)), .val (.int (0 : Int32)), .unset, .unset, .unset, .unset, .unset, .unset, .unset, .unset, .unset] [(.long l2), (.int (1 : Int32)), (.int (1 : Int32)), (.ref b101)]) (fun _ kx_ => XS.lload X136.here hx rfl (hb hby at_161) rfl kx_) ?_
      refine W.s1 (mkF m 165 #[.val (.long y1), .second, .val (.long y2), .second, .val (.long y3), .second, .val (.long y4), .second, .val (.int xs), .val (.long l1), .second, .val (.long g1), .second, .val (.long l2), .second, .val (.long g2), .second, .val (.ref sA), .val (.ref b101), .val (.int (0 : Int32)), .val (.int (1 : Int32)), .val (.int (0 : Int32)), .unset, .unset, .unset, .unset, .unset, .unset, .unset, .unset, .unset] [(.long g2), (.long l2), (.int (1 : Int32)), (.int (1 : Int32)), (.ref b101)]) (fun _ kx_ => XS.lload X136.here hx rfl (hb hby at_163) rfl kx_) ?_
      have Zo165 := Z136
      obtain ⟨cq154, kq154, q154a, q154b, q154c⟩ := isOf hZ e136 f138
      obtain ⟨_, _, ⟨T154, L154, k154, n154⟩, -, X154, ⟨Lc154, hQ154, l154, y154, z154⟩, st154⟩ := X136.virtualBack hx (y := (⟨"com/example/tempora/tempora/DistanceGraph", "addConstraint", "(IIJJ)I"⟩ : MethodName)) (z := (⟨"com/example/tempora/tempora/DistanceGraph", "addConstraint", "(IIJJ)I"⟩ : MethodName)) hown (mvT hZ (hw _ (List.mem_of_getElem? (i := 45) rfl))) (mvT hZ (hw _ (List.mem_of_getElem? (i := 46) rfl))) (notFace_of_selects (args := #[]) (mvT hZ (hw _ (List.mem_of_getElem? (i := 48) rfl)))) (mvT hZ (hw _ (List.mem_of_getElem? (i := 48) rfl))) (mvT hZ (hw _ (List.mem_of_getElem? (i := 47) rfl))) (by decide) (backOf (W := 0) (rm4b l Z a0 hw [] b101 (1 : Int32) (1 : Int32) l2 g2 zi zd zs zm zt zl zh (2 : Int32) (1 : Int32) (W.up (W.up (W.up (W.up (fun _ => Value.null) 0 (.ref zb0)) 1 (.ref zb1)) 0 (.ref b1)) 1 (.ref b2)) (W.up (W.up (fun _ => Value.null) 0 (.ref aV)) 1 (.ref sA)) (W.up (W.up (fun _ => 0) 0 1) 1 1) (W.up (fun _ => 0) 0 l1) (W.up (fun _ => 0) 0 g1) 1 1 1 b2 f2 h136 n0 Z136 H136 ho hge rfl (by decide) rfl (by decide) rfl (by decide) rfl rfl A2136 nb_b2 gb_b2 rfl) hZ (hw _ (List.mem_of_getElem? (i := 49) rfl)) (hw _ (List.mem_of_getElem? (i := 7) rfl)) (by decide) (by decide)) q154a q154c (g := (mkF m 165 #[.val (.long y1), .second, .val (.long y2), .second, .val (.long y3), .second, .val (.long y4), .second, .val (.int xs), .val (.long l1), .second, .val (.long g1), .second, .val (.long l2), .second, .val (.long g2), .second, .val (.ref sA), .val (.ref b101), .val (.int (0 : Int32)), .val (.int (1 : Int32)), .val (.int (0 : Int32)), .unset, .unset, .unset, .unset, .unset, .unset, .unset, .unset, .unset] [(.long g2), (.long l2), (.int (1 : Int32)), (.int (1 : Int32)), (.ref b101)])) rfl (by rw [hml]; rfl) (Steps.refl _) (argsL := [(.int (1 : Int32)), (.int (1 : Int32)), (.long l2), (.long g2)]) (rest := []) (lenOf pd_5 rfl) rfl (by show 2 * 0 + _ ≤ _; exact Nat.le_of_eq rfl) (hb hby at_165) (fun _ _ => ⟨rfl, e136, (by decide : 13 + 0 ≤ _), (by decide : 79 + 0 ≤ _)⟩)
      dsimp only [Pt.U, Pt.locs, Pt.cells, Pt.slots] at X154 l154 y154 z154 st154 hQ154
      subst l154 y154 z154
      obtain ⟨h154, e154⟩ : ∃ z, T154.heap = z := ⟨_, rfl⟩
      rw [e154] at hQ154
      obtain ⟨rfl, Nq154, Kq154, H154⟩ := hQ154
      have N154 := Fr.app N136 Nq154
      have Z154 : n0 ≤ h154.size := Nat.le_trans Z136 Kq154.1
      have f155 := f137.keep Kq154 (allS ge101 (allS hge.2.2.2.2.1 (allS hge.2.2.2.2.2.1 (allS hge.2.2.2.2.2.2.1 (allS hge.2.2.2.2.2.2.2 (allS hge.2.2.1 (allS gb_b2 all0)))))))
      have f156 := f138.keep Kq154
      have f157 := A1136.keep Kq154 (ninS nb_b1.1 (ninS nb_b1.2.2.2.2.1 (ninS nb_b1.2.2.2.2.2.1 (ninS nb_b1.2.2.2.2.2.2.1 (ninS nb_b1.2.2.2.2.2.2.2 (ninS nb_b1.2.2.1 (ninS n12 nin0)))))))
      obtain ⟨_, _, _, _, _, _, _, _, Fl, Fh, _, _, _, _, _, _, _, _, Al, Ah⟩ := H154
      refine W.s3 (mkF m 168 #[.val (.long y1), .second, .val (.long y2), .second, .val (.long y3), .second, .val (.long y4), .second, .val (.int xs), .val (.long l1), .second, .val (.long g1), .second, .val (.long l2), .second, .val (.long g2), .second, .val (.ref sA), .val (.ref b101), .val (.int (0 : Int32)), .val (.int (1 : Int32)), .val (.int (0 : Int32)), .unset, .unset, .unset, .unset, .unset, .unset, .unset, .unset, .unset] [(.int (1 : Int32))]) st154 ?_
      refine W.s1 (mkF m 170 #[.val (.long y1), .second, .val (.long y2), .second, .val (.long y3), .second, .val (.long y4), .second, .val (.int xs), .val (.long l1), .second, .val (.long g1), .second, .val (.long l2), .second, .val (.long g2), .second, .val (.ref sA), .val (.ref b101), .val (.int (0 : Int32)), .val (.int (1 : Int32)), .val (.int (0 : Int32)), .val (.int (1 : Int32)), .unset, .unset, .unset, .unset, .unset, .unset, .unset, .unset] []) (fun _ kx_ => XS.istore X154.here hx rfl (hb hby at_168) rfl (l' := #[.val (.long y1), .second, .val (.long y2), .second, .val (.long y3), .second, .val (.long y4), .second, .val (.int xs), .val (.long l1), .second, .val (.long g1), .second, .val (.long l2), .second, .val (.long g2), .second, .val (.ref sA), .val (.ref b101), .val (.int (0 : Int32)), .val (.int (1 : Int32)), .val (.int (0 : Int32)), .val (.int (1 : Int32)), .unset, .unset, .unset, .unset, .unset, .unset, .unset, .unset]) rfl kx_) ?_
      refine W.s1 (mkF m 188 #[.val (.long y1), .second, .val (.long y2), .second, .val (.long y3), .second, .val (.long y4), .second, .val (.int xs), .val (.long l1), .second, .val (.long g1), .second, .val (.long l2), .second, .val (.long g2), .second, .val (.ref sA), .val (.ref b101), .val (.int (0 : Int32)), .val (.int (1 : Int32)), .val (.int (0 : Int32)), .val (.int (1 : Int32)), .unset, .unset, .unset, .unset, .unset, .unset, .unset, .unset] []) (fun _ kx_ => XS.goto X154.here hx rfl (pc0 := 170) (pc' := 188) rfl (hb hby at_170) (by decide) (by decide) kx_) ?_
      refine W.s1 (mkF m 190 #[.val (.long y1), .second, .val (.long y2), .second, .val (.long y3), .second, .val (.long y4), .second, .val (.int xs), .val (.long l1), .second, .val (.long g1), .second, .val (.long l2), .second, .val (.long g2), .second, .val (.ref sA), .val (.ref b101), .val (.int (0 : Int32)), .val (.int (1 : Int32)), .val (.int (0 : Int32)), .val (.int (1 : Int32)), .unset, .unset, .unset, .unset, .unset, .unset, .unset, .unset] [(.ref b101)]) (fun _ kx_ => XS.aload X154.here hx rfl (hb hby at_188) rfl rfl kx_) ?_
      refine W.s1 (mkF m 192 #[.val (.long y1), .second, .val (.long y2), .second, .val (.long y3), .second, .val (.long y4), .second, .val (.int xs), .val (.long l1), .second, .val (.long g1), .second, .val (.long l2), .second, .val (.long g2), .second, .val (.ref sA), .val (.ref b101), .val (.int (0 : Int32)), .val (.int (1 : Int32)), .val (.int (0 : Int32)), .val (.int (1 : Int32)), .unset, .unset, .unset, .unset, .unset, .unset, .unset, .unset] [(.int (0 : Int32)), (.ref b101)]) (fun _ kx_ => XS.iload X154.here hx rfl (hb hby at_190) rfl kx_) ?_
      refine W.s1 (mkF m 193 #[.val (.long y1), .second, .val (.long y2), .second, .val (.long y3), .second, .val (.long y4), .second, .val (.int xs), .val (.long l1), .second, .val (.long g1), .second, .val (.long l2), .second, .val (.long g2), .second, .val (.ref sA), .val (.ref b101), .val (.int (0 : Int32)), .val (.int (1 : Int32)), .val (.int (0 : Int32)), .val (.int (1 : Int32)), .unset, .unset, .unset, .unset, .unset, .unset, .unset, .unset] [(.int (1 : Int32)), (.int (0 : Int32)), (.ref b101)]) (fun _ kx_ => XS.iconst X154.here hx rfl (hb hby at_192) kx_) ?_
      obtain ⟨cq159, kq159, q159a, q159b, q159c⟩ := isOf hZ e154 f156
      obtain ⟨_, _, ⟨T159, L159, k159, n159⟩, -, X159, ⟨Lc159, hQ159, l159, y159, z159⟩, st159⟩ := X154.virtualBack hx (y := (⟨"com/example/tempora/tempora/DistanceGraph", "lengthIfValid", "(IZ)J"⟩ : MethodName)) (z := (⟨"com/example/tempora/tempora/DistanceGraph", "lengthIfValid", "(IZ)J"⟩ : MethodName)) hown (mvT hZ (hw _ (List.mem_of_getElem? (i := 73) rfl))) (mvT hZ (hw _ (List.mem_of_getElem? (i := 74) rfl))) (notFace_of_selects (args := #[]) (mvT hZ (hw _ (List.mem_of_getElem? (i := 76) rfl)))) (mvT hZ (hw _ (List.mem_of_getElem? (i := 76) rfl))) (mvT hZ (hw _ (List.mem_of_getElem? (i := 75) rfl))) (by decide) (backOf (W := 0) (rm9 l Z a0 hw [] b101 (0 : Int32) (1 : Int32) zl zh (W.up (W.up (fun _ => 0) 0 l1) 1 l2) (W.up (W.up (fun _ => 0) 0 g1) 1 g2) 0 h154 n0 Z154 Fl Fh Al Ah rfl (by decide)) hZ (hw _ (List.mem_of_getElem? (i := 77) rfl)) (hw _ (List.mem_of_getElem? (i := 7) rfl)) (by decide) (by decide)) q159a q159c (g := (mkF m 193 #[.val (.long y1), .second, .val (.long y2), .second, .val (.long y3), .second, .val (.long y4), .second, .val (.int xs), .val (.long l1), .second, .val (.long g1), .second, .val (.long l2), .second, .val (.long g2), .second, .val (.ref sA), .val (.ref b101), .val (.int (0 : Int32)), .val (.int (1 : Int32)), .val (.int (0 : Int32)), .val (.int (1 : Int32)), .unset, .unset, .unset, .unset, .unset, .unset, .unset, .unset] [(.int (1 : Int32)), (.int (0 : Int32)), (.ref b101)])) rfl (by rw [hml]; rfl) (Steps.refl _) (argsL := [(.int (0 : Int32)), (.int (1 : Int32))]) (rest := []) (lenOf pd_6 rfl) rfl (by show 2 * 0 + _ ≤ _; exact Nat.le_of_eq rfl) (hb hby at_193) (fun _ _ => ⟨rfl, e154, (by decide : 13 + 0 ≤ _), (by decide : 79 + 0 ≤ _)⟩)
      dsimp only [Pt.U, Pt.locs, Pt.cells, Pt.slots] at X159 l159 y159 z159 st159 hQ159
      subst l159 y159 z159
      obtain ⟨r193, rfl, Nq159, eq159, hr193⟩ := hQ159
      have N159 := Fr.app N154 Nq159
      have hr193 : r193 = g1 := hr193.elim (fun q => q.2) (fun q => absurd q.1 (by decide))
      refine W.s3 (mkF m 196 #[.val (.long y1), .second, .val (.long y2), .second, .val (.long y3), .second, .val (.long y4), .second, .val (.int xs), .val (.long l1), .second, .val (.long g1), .second, .val (.long l2), .second, .val (.long g2), .second, .val (.ref sA), .val (.ref b101), .val (.int (0 : Int32)), .val (.int (1 : Int32)), .val (.int (0 : Int32)), .val (.int (1 : Int32)), .unset, .unset, .unset, .unset, .unset, .unset, .unset, .unset] [(.long r193)]) st159 ?_
      refine W.s1 (mkF m 198 #[.val (.long y1), .second, .val (.long y2), .second, .val (.long y3), .second, .val (.long y4), .second, .val (.int xs), .val (.long l1), .second, .val (.long g1), .second, .val (.long l2), .second, .val (.long g2), .second, .val (.ref sA), .val (.ref b101), .val (.int (0 : Int32)), .val (.int (1 : Int32)), .val (.int (0 : Int32)), .val (.int (1 : Int32)), .val (.long r193), .second, .unset, .unset, .unset, .unset, .unset, .unset] []) (fun _ kx_ => XS.lstore X159.here hx rfl (hb hby at_196) rfl (l' := #[.val (.long y1), .second, .val (.long y2), .second, .val (.long y3), .second, .val (.long y4), .second, .val (.int xs), .val (.long l1), .second, .val (.long g1), .second, .val (.long l2), .second, .val (.long g2), .second, .val (.ref sA), .val (.ref b101), .val (.int (0 : Int32)), .val (.int (1 : Int32)), .val (.int (0 : Int32)), .val (.int (1 : Int32)), .val (.long r193), .second, .unset, .unset, .unset, .unset, .unset, .unset]) rfl kx_) ?_
      refine W.s1 (mkF m 200 #[.val (.long y1), .second, .val (.long y2), .second, .val (.long y3), .second, .val (.long y4), .second, .val (.int xs), .val (.long l1), .second, .val (.long g1), .second, .val (.long l2), .second, .val (.long g2), .second, .val (.ref sA), .val (.ref b101), .val (.int (0 : Int32)), .val (.int (1 : Int32)), .val (.int (0 : Int32)), .val (.int (1 : Int32)), .val (.long r193), .second, .unset, .unset, .unset, .unset, .unset, .unset] [(.ref b101)]) (fun _ kx_ => XS.aload X159.here hx rfl (hb hby at_198) rfl rfl kx_) ?_
      refine W.s1 (mkF m 202 #[.val (.long y1), .second, .val (.long y2), .second, .val (.long y3), .second, .val (.long y4), .second, .val (.int xs), .val (.long l1), .second, .val (.long g1), .second, .val (.long l2), .second, .val (.long g2), .second, .val (.ref sA), .val (.ref b101), .val (.int (0 : Int32)), .val (.int (1 : Int32)), .val (.int (0 : Int32)), .val (.int (1 : Int32)), .val (.long r193), .second, .unset, .unset, .unset, .unset, .unset, .unset] [(.int (0 : Int32)), (.ref b101)]) (fun _ kx_ => XS.iload X159.here hx rfl (hb hby at_200) rfl kx_) ?_
      refine W.s1 (mkF m 203 #[.val (.long y1), .second, .val (.long y2), .second, .val (.long y3), .second, .val (.long y4), .second, .val (.int xs), .val (.long l1), .second, .val (.long g1), .second, .val (.long l2), .second, .val (.long g2), .second, .val (.ref sA), .val (.ref b101), .val (.int (0 : Int32)), .val (.int (1 : Int32)), .val (.int (0 : Int32)), .val (.int (1 : Int32)), .val (.long r193), .second, .unset, .unset, .unset, .unset, .unset, .unset] [(.int (0 : Int32)), (.int (0 : Int32)), (.ref b101)]) (fun _ kx_ => XS.iconst X159.here hx rfl (hb hby at_202) kx_) ?_
      obtain ⟨cq160, kq160, q160a, q160b, q160c⟩ := isOf hZ eq159 f156
      obtain ⟨_, _, ⟨T160, L160, k160, n160⟩, -, X160, ⟨Lc160, hQ160, l160, y160, z160⟩, st160⟩ := X159.virtualBack hx (y := (⟨"com/example/tempora/tempora/DistanceGraph", "lengthIfValid", "(IZ)J"⟩ : MethodName)) (z := (⟨"com/example/tempora/tempora/DistanceGraph", "lengthIfValid", "(IZ)J"⟩ : MethodName)) hown (mvT hZ (hw _ (List.mem_of_getElem? (i := 73) rfl))) (mvT hZ (hw _ (List.mem_of_getElem? (i := 74) rfl))) (notFace_of_selects (args := #[]) (mvT hZ (hw _ (List.mem_of_getElem? (i := 76) rfl)))) (mvT hZ (hw _ (List.mem_of_getElem? (i := 76) rfl))) (mvT hZ (hw _ (List.mem_of_getElem? (i := 75) rfl))) (by decide) (backOf (W := 0) (rm9 l Z a0 hw [] b101 (0 : Int32) (0 : Int32) zl zh (W.up (W.up (fun _ => 0) 0 l1) 1 l2) (W.up (W.up (fun _ => 0) 0 g1) 1 g2) 0 h154 n0 Z154 Fl Fh Al Ah rfl (by decide)) hZ (hw _ (List.mem_of_getElem? (i := 77) rfl)) (hw _ (List.mem_of_getElem? (i := 7) rfl)) (by decide) (by decide)) q160a q160c (g := (mkF m 203 #[.val (.long y1), .second, .val (.long y2), .second, .val (.long y3), .second, .val (.long y4), .second, .val (.int xs), .val (.long l1), .second, .val (.long g1), .second, .val (.long l2), .second, .val (.long g2), .second, .val (.ref sA), .val (.ref b101), .val (.int (0 : Int32)), .val (.int (1 : Int32)), .val (.int (0 : Int32)), .val (.int (1 : Int32)), .val (.long r193), .second, .unset, .unset, .unset, .unset, .unset, .unset] [(.int (0 : Int32)), (.int (0 : Int32)), (.ref b101)])) rfl (by rw [hml]; rfl) (Steps.refl _) (argsL := [(.int (0 : Int32)), (.int (0 : Int32))]) (rest := []) (lenOf pd_6 rfl) rfl (by show 2 * 0 + _ ≤ _; exact Nat.le_of_eq rfl) (hb hby at_203) (fun _ _ => ⟨rfl, eq159, (by decide : 13 + 0 ≤ _), (by decide : 79 + 0 ≤ _)⟩)
      dsimp only [Pt.U, Pt.locs, Pt.cells, Pt.slots] at X160 l160 y160 z160 st160 hQ160
      subst l160 y160 z160
      obtain ⟨r203, rfl, Nq160, eq160, hr203⟩ := hQ160
      have N160 := Fr.app N159 Nq160
      have hr203 : (l1 = (-9223372036854775808 : Int64) ∧ r203 = (9223372036854775807 : Int64)) ∨ (¬ l1 = (-9223372036854775808 : Int64) ∧ r203 = -l1) := hr203.elim (fun q => absurd rfl q.1) (fun q => q.2)
      refine W.s3 (mkF m 206 #[.val (.long y1), .second, .val (.long y2), .second, .val (.long y3), .second, .val (.long y4), .second, .val (.int xs), .val (.long l1), .second, .val (.long g1), .second, .val (.long l2), .second, .val (.long g2), .second, .val (.ref sA), .val (.ref b101), .val (.int (0 : Int32)), .val (.int (1 : Int32)), .val (.int (0 : Int32)), .val (.int (1 : Int32)), .val (.long r193), .second, .unset, .unset, .unset, .unset, .unset, .unset] [(.long r203)]) st160 ?_
      refine W.s1 (mkF m 208 #[.val (.long y1), .second, .val (.long y2), .second, .val (.long y3), .second, .val (.long y4), .second, .val (.int xs), .val (.long l1), .second, .val (.long g1), .second, .val (.long l2), .second, .val (.long g2), .second, .val (.ref sA), .val (.ref b101), .val (.int (0 : Int32)), .val (.int (1 : Int32)), .val (.int (0 : Int32)), .val (.int (1 : Int32)), .val (.long r193), .second, .val (.long r203), .second, .unset, .unset, .unset, .unset] []) (fun _ kx_ => XS.lstore X160.here hx rfl (hb hby at_206) rfl (l' := #[.val (.long y1), .second, .val (.long y2), .second, .val (.long y3), .second, .val (.long y4), .second, .val (.int xs), .val (.long l1), .second, .val (.long g1), .second, .val (.long l2), .second, .val (.long g2), .second, .val (.ref sA), .val (.ref b101), .val (.int (0 : Int32)), .val (.int (1 : Int32)), .val (.int (0 : Int32)), .val (.int (1 : Int32)), .val (.long r193), .second, .val (.long r203), .second, .unset, .unset, .unset, .unset]) rfl kx_) ?_
      refine W.s1 (mkF m 210 #[.val (.long y1), .second, .val (.long y2), .second, .val (.long y3), .second, .val (.long y4), .second, .val (.int xs), .val (.long l1), .second, .val (.long g1), .second, .val (.long l2), .second, .val (.long g2), .second, .val (.ref sA), .val (.ref b101), .val (.int (0 : Int32)), .val (.int (1 : Int32)), .val (.int (0 : Int32)), .val (.int (1 : Int32)), .val (.long r193), .second, .val (.long r203), .second, .unset, .unset, .unset, .unset] [(.ref b101)]) (fun _ kx_ => XS.aload X160.here hx rfl (hb hby at_208) rfl rfl kx_) ?_
      refine W.s1 (mkF m 212 #[.val (.long y1), .second, .val (.long y2), .second, .val (.long y3), .second, .val (.long y4), .second, .val (.int xs), .val (.long l1), .second, .val (.long g1), .second, .val (.long l2), .second, .val (.long g2), .second, .val (.ref sA), .val (.ref b101), .val (.int (0 : Int32)), .val (.int (1 : Int32)), .val (.int (0 : Int32)), .val (.int (1 : Int32)), .val (.long r193), .second, .val (.long r203), .second, .unset, .unset, .unset, .unset] [(.int (1 : Int32)), (.ref b101)]) (fun _ kx_ => XS.iload X160.here hx rfl (hb hby at_210) rfl kx_) ?_
      refine W.s1 (mkF m 213 #[.val (.long y1), .second, .val (.long y2), .second, .val (.long y3), .second, .val (.long y4), .second, .val (.int xs), .val (.long l1), .second, .val (.long g1), .second, .val (.long l2), .second, .val (.long g2), .second, .val (.ref sA), .val (.ref b101), .val (.int (0 : Int32)), .val (.int (1 : Int32)), .val (.int (0 : Int32)), .val (.int (1 : Int32)), .val (.long r193), .second, .val (.long r203), .second, .unset, .unset, .unset, .unset] [(.int (1 : Int32)), (.int (1 : Int32)), (.ref b101)]) (fun _ kx_ => XS.iconst X160.here hx rfl (hb hby at_212) kx_) ?_
      obtain ⟨cq161, kq161, q161a, q161b, q161c⟩ := isOf hZ eq160 f156
      obtain ⟨_, _, ⟨T161, L161, k161, n161⟩, -, X161, ⟨Lc161, hQ161, l161, y161, z161⟩, st161⟩ := X160.virtualBack hx (y := (⟨"com/example/tempora/tempora/DistanceGraph", "lengthIfValid", "(IZ)J"⟩ : MethodName)) (z := (⟨"com/example/tempora/tempora/DistanceGraph", "lengthIfValid", "(IZ)J"⟩ : MethodName)) hown (mvT hZ (hw _ (List.mem_of_getElem? (i := 73) rfl))) (mvT hZ (hw _ (List.mem_of_getElem? (i := 74) rfl))) (notFace_of_selects (args := #[]) (mvT hZ (hw _ (List.mem_of_getElem? (i := 76) rfl)))) (mvT hZ (hw _ (List.mem_of_getElem? (i := 76) rfl))) (mvT hZ (hw _ (List.mem_of_getElem? (i := 75) rfl))) (by decide) (backOf (W := 0) (rm9 l Z a0 hw [] b101 (1 : Int32) (1 : Int32) zl zh (W.up (W.up (fun _ => 0) 0 l1) 1 l2) (W.up (W.up (fun _ => 0) 0 g1) 1 g2) 1 h154 n0 Z154 Fl Fh Al Ah rfl (by decide)) hZ (hw _ (List.mem_of_getElem? (i := 77) rfl)) (hw _ (List.mem_of_getElem? (i := 7) rfl)) (by decide) (by decide)) q161a q161c (g := (mkF m 213 #[.val (.long y1), .second, .val (.long y2), .second, .val (.long y3), .second, .val (.long y4), .second, .val (.int xs), .val (.long l1), .second, .val (.long g1), .second, .val (.long l2), .second, .val (.long g2), .second, .val (.ref sA), .val (.ref b101), .val (.int (0 : Int32)), .val (.int (1 : Int32)), .val (.int (0 : Int32)), .val (.int (1 : Int32)), .val (.long r193), .second, .val (.long r203), .second, .unset, .unset, .unset, .unset] [(.int (1 : Int32)), (.int (1 : Int32)), (.ref b101)])) rfl (by rw [hml]; rfl) (Steps.refl _) (argsL := [(.int (1 : Int32)), (.int (1 : Int32))]) (rest := []) (lenOf pd_6 rfl) rfl (by show 2 * 0 + _ ≤ _; exact Nat.le_of_eq rfl) (hb hby at_213) (fun _ _ => ⟨rfl, eq160, (by decide : 13 + 0 ≤ _), (by decide : 79 + 0 ≤ _)⟩)
      dsimp only [Pt.U, Pt.locs, Pt.cells, Pt.slots] at X161 l161 y161 z161 st161 hQ161
      subst l161 y161 z161
      obtain ⟨r213, rfl, Nq161, eq161, hr213⟩ := hQ161
      have N161 := Fr.app N160 Nq161
      have hr213 : r213 = g2 := hr213.elim (fun q => q.2) (fun q => absurd q.1 (by decide))
      refine W.s3 (mkF m 216 #[.val (.long y1), .second, .val (.long y2), .second, .val (.long y3), .second, .val (.long y4), .second, .val (.int xs), .val (.long l1), .second, .val (.long g1), .second, .val (.long l2), .second, .val (.long g2), .second, .val (.ref sA), .val (.ref b101), .val (.int (0 : Int32)), .val (.int (1 : Int32)), .val (.int (0 : Int32)), .val (.int (1 : Int32)), .val (.long r193), .second, .val (.long r203), .second, .unset, .unset, .unset, .unset] [(.long r213)]) st161 ?_
      refine W.s1 (mkF m 218 #[.val (.long y1), .second, .val (.long y2), .second, .val (.long y3), .second, .val (.long y4), .second, .val (.int xs), .val (.long l1), .second, .val (.long g1), .second, .val (.long l2), .second, .val (.long g2), .second, .val (.ref sA), .val (.ref b101), .val (.int (0 : Int32)), .val (.int (1 : Int32)), .val (.int (0 : Int32)), .val (.int (1 : Int32)), .val (.long r193), .second, .val (.long r203), .second, .val (.long r213), .second, .unset, .unset] []) (fun _ kx_ => XS.lstore X161.here hx rfl (hb hby at_216) rfl (l' := #[.val (.long y1), .second, .val (.long y2), .second, .val (.long y3), .second, .val (.long y4), .second, .val (.int xs), .val (.long l1), .second, .val (.long g1), .second, .val (.long l2), .second, .val (.long g2), .second, .val (.ref sA), .val (.ref b101), .val (.int (0 : Int32)), .val (.int (1 : Int32)), .val (.int (0 : Int32)), .val (.int (1 : Int32)), .val (.long r193), .second, .val (.long r203), .second, .val (.long r213), .second, .unset, .unset]) rfl kx_) ?_
      refine W.s1 (mkF m 220 #[.val (.long y1), .second, .val (.long y2), .second, .val (.long y3), .second, .val (.long y4), .second, .val (.int xs), .val (.long l1), .second, .val (.long g1), .second, .val (.long l2), .second, .val (.long g2), .second, .val (.ref sA), .val (.ref b101), .val (.int (0 : Int32)), .val (.int (1 : Int32)), .val (.int (0 : Int32)), .val (.int (1 : Int32)), .val (.long r193), .second, .val (.long r203), .second, .val (.long r213), .second, .unset, .unset] [(.ref b101)]) (fun _ kx_ => XS.aload X161.here hx rfl (hb hby at_218) rfl rfl kx_) ?_
      refine W.s1 (mkF m 222 #[.val (.long y1), .second, .val (.long y2), .second, .val (.long y3), .second, .val (.long y4), .second, .val (.int xs), .val (.long l1), .second, .val (.long g1), .second, .val (.long l2), .second, .val (.long g2), .second, .val (.ref sA), .val (.ref b101), .val (.int (0 : Int32)), .val (.int (1 : Int32)), .val (.int (0 : Int32)), .val (.int (1 : Int32)), .val (.long r193), .second, .val (.long r203), .second, .val (.long r213), .second, .unset, .unset] [(.int (1 : Int32)), (.ref b101)]) (fun _ kx_ => XS.iload X161.here hx rfl (hb hby at_220) rfl kx_) ?_
      refine W.s1 (mkF m 223 #[.val (.long y1), .second, .val (.long y2), .second, .val (.long y3), .second, .val (.long y4), .second, .val (.int xs), .val (.long l1), .second, .val (.long g1), .second, .val (.long l2), .second, .val (.long g2), .second, .val (.ref sA), .val (.ref b101), .val (.int (0 : Int32)), .val (.int (1 : Int32)), .val (.int (0 : Int32)), .val (.int (1 : Int32)), .val (.long r193), .second, .val (.long r203), .second, .val (.long r213), .second, .unset, .unset] [(.int (0 : Int32)), (.int (1 : Int32)), (.ref b101)]) (fun _ kx_ => XS.iconst X161.here hx rfl (hb hby at_222) kx_) ?_
      obtain ⟨cq162, kq162, q162a, q162b, q162c⟩ := isOf hZ eq161 f156
      obtain ⟨_, _, ⟨T162, L162, k162, n162⟩, -, X162, ⟨Lc162, hQ162, l162, y162, z162⟩, st162⟩ := X161.virtualBack hx (y := (⟨"com/example/tempora/tempora/DistanceGraph", "lengthIfValid", "(IZ)J"⟩ : MethodName)) (z := (⟨"com/example/tempora/tempora/DistanceGraph", "lengthIfValid", "(IZ)J"⟩ : MethodName)) hown (mvT hZ (hw _ (List.mem_of_getElem? (i := 73) rfl))) (mvT hZ (hw _ (List.mem_of_getElem? (i := 74) rfl))) (notFace_of_selects (args := #[]) (mvT hZ (hw _ (List.mem_of_getElem? (i := 76) rfl)))) (mvT hZ (hw _ (List.mem_of_getElem? (i := 76) rfl))) (mvT hZ (hw _ (List.mem_of_getElem? (i := 75) rfl))) (by decide) (backOf (W := 0) (rm9 l Z a0 hw [] b101 (1 : Int32) (0 : Int32) zl zh (W.up (W.up (fun _ => 0) 0 l1) 1 l2) (W.up (W.up (fun _ => 0) 0 g1) 1 g2) 1 h154 n0 Z154 Fl Fh Al Ah rfl (by decide)) hZ (hw _ (List.mem_of_getElem? (i := 77) rfl)) (hw _ (List.mem_of_getElem? (i := 7) rfl)) (by decide) (by decide)) q162a q162c (g := (mkF m 223 #[.val (.long y1), .second, .val (.long y2), .second, .val (.long y3), .second, .val (.long y4), .second, .val (.int xs), .val (.long l1), .second, .val (.long g1), .second, .val (.long l2), .second, .val (.long g2), .second, .val (.ref sA), .val (.ref b101), .val (.int (0 : Int32)), .val (.int (1 : Int32)), .val (.int (0 : Int32)), .val (.int (1 : Int32)), .val (.long r193), .second, .val (.long r203), .second, .val (.long r213), .second, .unset, .unset] [(.int (0 : Int32)), (.int (1 : Int32)), (.ref b101)])) rfl (by rw [hml]; rfl) (Steps.refl _) (argsL := [(.int (1 : Int32)), (.int (0 : Int32))]) (rest := []) (lenOf pd_6 rfl) rfl (by show 2 * 0 + _ ≤ _; exact Nat.le_of_eq rfl) (hb hby at_223) (fun _ _ => ⟨rfl, eq161, (by decide : 13 + 0 ≤ _), (by decide : 79 + 0 ≤ _)⟩)
      dsimp only [Pt.U, Pt.locs, Pt.cells, Pt.slots] at X162 l162 y162 z162 st162 hQ162
      subst l162 y162 z162
      obtain ⟨r223, rfl, Nq162, eq162, hr223⟩ := hQ162
      have N162 := Fr.app N161 Nq162
      have hr223 : (l2 = (-9223372036854775808 : Int64) ∧ r223 = (9223372036854775807 : Int64)) ∨ (¬ l2 = (-9223372036854775808 : Int64) ∧ r223 = -l2) := hr223.elim (fun q => absurd rfl q.1) (fun q => q.2)
      refine W.s3 (mkF m 226 #[.val (.long y1), .second, .val (.long y2), .second, .val (.long y3), .second, .val (.long y4), .second, .val (.int xs), .val (.long l1), .second, .val (.long g1), .second, .val (.long l2), .second, .val (.long g2), .second, .val (.ref sA), .val (.ref b101), .val (.int (0 : Int32)), .val (.int (1 : Int32)), .val (.int (0 : Int32)), .val (.int (1 : Int32)), .val (.long r193), .second, .val (.long r203), .second, .val (.long r213), .second, .unset, .unset] [(.long r223)]) st162 ?_
      refine W.s1 (mkF m 228 #[.val (.long y1), .second, .val (.long y2), .second, .val (.long y3), .second, .val (.long y4), .second, .val (.int xs), .val (.long l1), .second, .val (.long g1), .second, .val (.long l2), .second, .val (.long g2), .second, .val (.ref sA), .val (.ref b101), .val (.int (0 : Int32)), .val (.int (1 : Int32)), .val (.int (0 : Int32)), .val (.int (1 : Int32)), .val (.long r193), .second, .val (.long r203), .second, .val (.long r213), .second, .val (.long r223), .second] []) (fun _ kx_ => XS.lstore X162.here hx rfl (hb hby at_226) rfl (l' := #[.val (.long y1), .second, .val (.long y2), .second, .val (.long y3), .second, .val (.long y4), .second, .val (.int xs), .val (.long l1), .second, .val (.long g1), .second, .val (.long l2), .second, .val (.long g2), .second, .val (.ref sA), .val (.ref b101), .val (.int (0 : Int32)), .val (.int (1 : Int32)), .val (.int (0 : Int32)), .val (.int (1 : Int32)), .val (.long r193), .second, .val (.long r203), .second, .val (.long r213), .second, .val (.long r223), .second]) rfl kx_) ?_
      refine W.s1 (mkF m 230 #[.val (.long y1), .second, .val (.long y2), .second, .val (.long y3), .second, .val (.long y4), .second, .val (.int xs), .val (.long l1), .second, .val (.long g1), .second, .val (.long l2), .second, .val (.long g2), .second, .val (.ref sA), .val (.ref b101), .val (.int (0 : Int32)), .val (.int (1 : Int32)), .val (.int (0 : Int32)), .val (.int (1 : Int32)), .val (.long r193), .second, .val (.long r203), .second, .val (.long r213), .second, .val (.long r223), .second] [(.long r193)]) (fun _ kx_ => XS.lload X162.here hx rfl (hb hby at_228) rfl kx_) ?_
      refine W.s1 (mkF m 232 #[.val (.long y1), .second, .val (.long y2), .second, .val (.long y3), .second, .val (.long y4), .second, .val (.int xs), .val (.long l1), .second, .val (.long g1), .second, .val (.long l2), .second, .val (.long g2), .second, .val (.ref sA), .val (.ref b101), .val (.int (0 : Int32)), .val (.int (1 : Int32)), .val (.int (0 : Int32)), .val (.int (1 : Int32)), .val (.long r193), .second, .val (.long r203), .second, .val (.long r213), .second, .val (.long r223), .second] [(.long g1), (.long r193)]) (fun _ kx_ => XS.lload X162.here hx rfl (hb hby at_230) rfl kx_) ?_
      obtain ⟨_, _, ⟨T163, L163, k163, n163⟩, -, X163, ⟨Lc163, hQ163, l163, y163, z163⟩, st163⟩ := Jvm.LawKit.callS X162 hx (y := (⟨"com/example/tempora/tempora/DistanceGraphLengthIfValidPinLaw", "fromOk", "(JJ)Z"⟩ : MethodName)) hown (mvT hZ (hw _ (List.mem_of_getElem? (i := 80) rfl))) (mvT hZ (hw _ (List.mem_of_getElem? (i := 81) rfl))) (mvT hZ (hw _ (List.mem_of_getElem? (i := 82) rfl))) (mvT hZ (hw _ (List.mem_of_getElem? (i := 83) rfl))) (by decide) (backOf (W := 0) (rm10 l Z a0 hw [] r193 g1 h154 n0 Z154 hr193) hZ (hw _ (List.mem_of_getElem? (i := 83) rfl)) (hw _ (List.mem_of_getElem? (i := 82) rfl)) (by decide) (by decide)) (g := (mkF m 232 #[.val (.long y1), .second, .val (.long y2), .second, .val (.long y3), .second, .val (.long y4), .second, .val (.int xs), .val (.long l1), .second, .val (.long g1), .second, .val (.long l2), .second, .val (.long g2), .second, .val (.ref sA), .val (.ref b101), .val (.int (0 : Int32)), .val (.int (1 : Int32)), .val (.int (0 : Int32)), .val (.int (1 : Int32)), .val (.long r193), .second, .val (.long r203), .second, .val (.long r213), .second, .val (.long r223), .second] [(.long g1), (.long r193)])) rfl (by rw [hml]; rfl) (argsL := [(.long r193), (.long g1)]) (rest := []) (lenOf pd_7 rfl) rfl (by show 2 * 0 + _ ≤ _; exact Nat.le_of_eq rfl) (hb hby at_232) (fun _ _ => ⟨rfl, eq162, (by decide : 13 + 0 ≤ _), (by decide : 79 + 0 ≤ _)⟩)
      dsimp only [Pt.U, Pt.locs, Pt.cells, Pt.slots] at X163 l163 y163 z163 st163 hQ163
      subst l163 y163 z163
      obtain ⟨rfl, Nq163, eq163⟩ := hQ163
      have N163 := Fr.app N162 Nq163
      refine W.s2 (mkF m 235 #[.val (.long y1), .second, .val (.long y2), .second, .val (.long y3), .second, .val (.long y4), .second, .val (.int xs), .val (.long l1), .second, .val (.long g1), .second, .val (.long l2), .second, .val (.long g2), .second, .val (.ref sA), .val (.ref b101), .val (.int (0 : Int32)), .val (.int (1 : Int32)), .val (.int (0 : Int32)), .val (.int (1 : Int32)), .val (.long r193), .second, .val (.long r203), .second, .val (.long r213), .second, .val (.long r223), .second] [(.int (1 : Int32))]) st163 ?_
      refine W.ifc X163 hx (hb hby at_235) (pc' := 272) (pc'' := 238) (by decide) (by decide) rfl (fun (c235 : (1 : Int32) = (0 : Int32)) => ?_) (fun (c235 : ¬ (1 : Int32) = (0 : Int32)) => ?_)
      · exact absurd c235 (by decide)
      · refine W.s1 (mkF m 240 #[.val (.long y1), .second, .val (.long y2), .second, .val (.long y3), .second, .val (.long y4), .second, .val (.int xs), .val (.long l1), .second, .val (.long g1), .second, .val (.long l2), .second, .val (.long g2), .second, .val (.ref sA), .val (.ref b101), .val (.int (0 : Int32)), .val (.int (1 : Int32)), .val (.int (0 : Int32)), .val (.int (1 : Int32)), .val (.long r193), .second, .val (.long r203), .second, .val (.long r213), .second, .val (.long r223), .second] [(.long r203)]) (fun _ kx_ => XS.lload X163.here hx rfl (hb hby at_238) rfl kx_) ?_
        refine W.s1 (mkF m 242 #[.val (.long y1), .second, .val (.long y2), .second, .val (.long y3), .second, .val (.long y4), .second, .val (.int xs), .val (.long l1), .second, .val (.long g1), .second, .val (.long l2), .second, .val (.long g2), .second, .val (.ref sA), .val (.ref b101), .val (.int (0 : Int32)), .val (.int (1 : Int32)), .val (.int (0 : Int32)), .val (.int (1 : Int32)), .val (.long r193), .second, .val (.long r203), .second, .val (.long r213), .second, .val (.long r223), .second] [(.long l1), (.long r203)]) (fun _ kx_ => XS.lload X163.here hx rfl (hb hby at_240) rfl kx_) ?_
        obtain ⟨_, _, ⟨T164, L164, k164, n164⟩, -, X164, ⟨Lc164, hQ164, l164, y164, z164⟩, st164⟩ := Jvm.LawKit.callS X163 hx (y := (⟨"com/example/tempora/tempora/DistanceGraphLengthIfValidPinLaw", "toOk", "(JJ)Z"⟩ : MethodName)) hown (mvT hZ (hw _ (List.mem_of_getElem? (i := 84) rfl))) (mvT hZ (hw _ (List.mem_of_getElem? (i := 85) rfl))) (mvT hZ (hw _ (List.mem_of_getElem? (i := 82) rfl))) (mvT hZ (hw _ (List.mem_of_getElem? (i := 86) rfl))) (by decide) (backOf (W := 0) (rm11 l Z a0 hw [] r203 l1 h154 n0 Z154 hr203) hZ (hw _ (List.mem_of_getElem? (i := 86) rfl)) (hw _ (List.mem_of_getElem? (i := 82) rfl)) (by decide) (by decide)) (g := (mkF m 242 #[.val (.long y1), .second, .val (.long y2), .second, .val (.long y3), .second, .val (.long y4), .second, .val (.int xs), .val (.long l1), .second, .val (.long g1), .second, .val (.long l2), .second, .val (.long g2), .second, .val (.ref sA), .val (.ref b101), .val (.int (0 : Int32)), .val (.int (1 : Int32)), .val (.int (0 : Int32)), .val (.int (1 : Int32)), .val (.long r193), .second, .val (.long r203), .second, .val (.long r213), .second, .val (.long r223), .second] [(.long l1), (.long r203)])) rfl (by rw [hml]; rfl) (argsL := [(.long r203), (.long l1)]) (rest := []) (lenOf pd_7 rfl) rfl (by show 2 * 0 + _ ≤ _; exact Nat.le_of_eq rfl) (hb hby at_242) (fun _ _ => ⟨rfl, eq163, (by decide : 13 + 0 ≤ _), (by decide : 79 + 0 ≤ _)⟩)
        dsimp only [Pt.U, Pt.locs, Pt.cells, Pt.slots] at X164 l164 y164 z164 st164 hQ164
        subst l164 y164 z164
        obtain ⟨rfl, Nq164, eq164⟩ := hQ164
        have N164 := Fr.app N163 Nq164
        refine W.s2 (mkF m 245 #[.val (.long y1), .second, .val (.long y2), .second, .val (.long y3), .second, .val (.long y4), .second, .val (.int xs), .val (.long l1), .second, .val (.long g1), .second, .val (.long l2), .second, .val (.long g2), .second, .val (.ref sA), .val (.ref b101), .val (.int (0 : Int32)), .val (.int (1 : Int32)), .val (.int (0 : Int32)), .val (.int (1 : Int32)), .val (.long r193), .second, .val (.long r203), .second, .val (.long r213), .second, .val (.long r223), .second] [(.int (1 : Int32))]) st164 ?_
        refine W.ifc X164 hx (hb hby at_245) (pc' := 272) (pc'' := 248) (by decide) (by decide) rfl (fun (c245 : (1 : Int32) = (0 : Int32)) => ?_) (fun (c245 : ¬ (1 : Int32) = (0 : Int32)) => ?_)
        · exact absurd c245 (by decide)
        · refine W.s1 (mkF m 250 #[.val (.long y1), .second, .val (.long y2), .second, .val (.long y3), .second, .val (.long y4), .second, .val (.int xs), .val (.long l1), .second, .val (.long g1), .second, .val (.long l2), .second, .val (.long g2), .second, .val (.ref sA), .val (.ref b101), .val (.int (0 : Int32)), .val (.int (1 : Int32)), .val (.int (0 : Int32)), .val (.int (1 : Int32)), .val (.long r193), .second, .val (.long r203), .second, .val (.long r213), .second, .val (.long r223), .second] [(.long r213)]) (fun _ kx_ => XS.lload X164.here hx rfl (hb hby at_248) rfl kx_) ?_
          refine W.s1 (mkF m 252 #[.val (.long y1), .second, .val (.long y2), .second, .val (.long y3), .second, .val (.long y4), .second, .val (.int xs), .val (.long l1), .second, .val (.long g1), .second, .val (.long l2), .second, .val (.long g2), .second, .val (.ref sA), .val (.ref b101), .val (.int (0 : Int32)), .val (.int (1 : Int32)), .val (.int (0 : Int32)), .val (.int (1 : Int32)), .val (.long r193), .second, .val (.long r203), .second, .val (.long r213), .second, .val (.long r223), .second] [(.long g2), (.long r213)]) (fun _ kx_ => XS.lload X164.here hx rfl (hb hby at_250) rfl kx_) ?_
          obtain ⟨_, _, ⟨T165, L165, k165, n165⟩, -, X165, ⟨Lc165, hQ165, l165, y165, z165⟩, st165⟩ := Jvm.LawKit.callS X164 hx (y := (⟨"com/example/tempora/tempora/DistanceGraphLengthIfValidPinLaw", "fromOk", "(JJ)Z"⟩ : MethodName)) hown (mvT hZ (hw _ (List.mem_of_getElem? (i := 80) rfl))) (mvT hZ (hw _ (List.mem_of_getElem? (i := 81) rfl))) (mvT hZ (hw _ (List.mem_of_getElem? (i := 82) rfl))) (mvT hZ (hw _ (List.mem_of_getElem? (i := 83) rfl))) (by decide) (backOf (W := 0) (rm10 l Z a0 hw [] r213 g2 h154 n0 Z154 hr213) hZ (hw _ (List.mem_of_getElem? (i := 83) rfl)) (hw _ (List.mem_of_getElem? (i := 82) rfl)) (by decide) (by decide)) (g := (mkF m 252 #[.val (.long y1), .second, .val (.long y2), .second, .val (.long y3), .second, .val (.long y4), .second, .val (.int xs), .val (.long l1), .second, .val (.long g1), .second, .val (.long l2), .second, .val (.long g2), .second, .val (.ref sA), .val (.ref b101), .val (.int (0 : Int32)), .val (.int (1 : Int32)), .val (.int (0 : Int32)), .val (.int (1 : Int32)), .val (.long r193), .second, .val (.long r203), .second, .val (.long r213), .second, .val (.long r223), .second] [(.long g2), (.long r213)])) rfl (by rw [hml]; rfl) (argsL := [(.long r213), (.long g2)]) (rest := []) (lenOf pd_7 rfl) rfl (by show 2 * 0 + _ ≤ _; exact Nat.le_of_eq rfl) (hb hby at_252) (fun _ _ => ⟨rfl, eq164, (by decide : 13 + 0 ≤ _), (by decide : 79 + 0 ≤ _)⟩)
          dsimp only [Pt.U, Pt.locs, Pt.cells, Pt.slots] at X165 l165 y165 z165 st165 hQ165
          subst l165 y165 z165
          obtain ⟨rfl, Nq165, eq165⟩ := hQ165
          have N165 := Fr.app N164 Nq165
          refine W.s2 (mkF m 255 #[.val (.long y1), .second, .val (.long y2), .second, .val (.long y3), .second, .val (.long y4), .second, .val (.int xs), .val (.long l1), .second, .val (.long g1), .second, .val (.long l2), .second, .val (.long g2), .second, .val (.ref sA), .val (.ref b101), .val (.int (0 : Int32)), .val (.int (1 : Int32)), .val (.int (0 : Int32)), .val (.int (1 : Int32)), .val (.long r193), .second, .val (.long r203), .second, .val (.long r213), .second, .val (.long r223), .second] [(.int (1 : Int32))]) st165 ?_
          refine W.ifc X165 hx (hb hby at_255) (pc' := 272) (pc'' := 258) (by decide) (by decide) rfl (fun (c255 : (1 : Int32) = (0 : Int32)) => ?_) (fun (c255 : ¬ (1 : Int32) = (0 : Int32)) => ?_)
          · exact absurd c255 (by decide)
          · refine W.s1 (mkF m 260 #[.val (.long y1), .second, .val (.long y2), .second, .val (.long y3), .second, .val (.long y4), .second, .val (.int xs), .val (.long l1), .second, .val (.long g1), .second, .val (.long l2), .second, .val (.long g2), .second, .val (.ref sA), .val (.ref b101), .val (.int (0 : Int32)), .val (.int (1 : Int32)), .val (.int (0 : Int32)), .val (.int (1 : Int32)), .val (.long r193), .second, .val (.long r203), .second, .val (.long r213), .second, .val (.long r223), .second] [(.long r223)]) (fun _ kx_ => XS.lload X165.here hx rfl (hb hby at_258) rfl kx_) ?_
            refine W.s1 (mkF m 262 #[.val (.long y1), .second, .val (.long y2), .second, .val (.long y3), .second, .val (.long y4), .second, .val (.int xs), .val (.long l1), .second, .val (.long g1), .second, .val (.long l2), .second, .val (.long g2), .second, .val (.ref sA), .val (.ref b101), .val (.int (0 : Int32)), .val (.int (1 : Int32)), .val (.int (0 : Int32)), .val (.int (1 : Int32)), .val (.long r193), .second, .val (.long r203), .second, .val (.long r213), .second, .val (.long r223), .second] [(.long l2), (.long r223)]) (fun _ kx_ => XS.lload X165.here hx rfl (hb hby at_260) rfl kx_) ?_
            obtain ⟨_, _, ⟨T166, L166, k166, n166⟩, -, X166, ⟨Lc166, hQ166, l166, y166, z166⟩, st166⟩ := Jvm.LawKit.callS X165 hx (y := (⟨"com/example/tempora/tempora/DistanceGraphLengthIfValidPinLaw", "toOk", "(JJ)Z"⟩ : MethodName)) hown (mvT hZ (hw _ (List.mem_of_getElem? (i := 84) rfl))) (mvT hZ (hw _ (List.mem_of_getElem? (i := 85) rfl))) (mvT hZ (hw _ (List.mem_of_getElem? (i := 82) rfl))) (mvT hZ (hw _ (List.mem_of_getElem? (i := 86) rfl))) (by decide) (backOf (W := 0) (rm11 l Z a0 hw [] r223 l2 h154 n0 Z154 hr223) hZ (hw _ (List.mem_of_getElem? (i := 86) rfl)) (hw _ (List.mem_of_getElem? (i := 82) rfl)) (by decide) (by decide)) (g := (mkF m 262 #[.val (.long y1), .second, .val (.long y2), .second, .val (.long y3), .second, .val (.long y4), .second, .val (.int xs), .val (.long l1), .second, .val (.long g1), .second, .val (.long l2), .second, .val (.long g2), .second, .val (.ref sA), .val (.ref b101), .val (.int (0 : Int32)), .val (.int (1 : Int32)), .val (.int (0 : Int32)), .val (.int (1 : Int32)), .val (.long r193), .second, .val (.long r203), .second, .val (.long r213), .second, .val (.long r223), .second] [(.long l2), (.long r223)])) rfl (by rw [hml]; rfl) (argsL := [(.long r223), (.long l2)]) (rest := []) (lenOf pd_7 rfl) rfl (by show 2 * 0 + _ ≤ _; exact Nat.le_of_eq rfl) (hb hby at_262) (fun _ _ => ⟨rfl, eq165, (by decide : 13 + 0 ≤ _), (by decide : 79 + 0 ≤ _)⟩)
            dsimp only [Pt.U, Pt.locs, Pt.cells, Pt.slots] at X166 l166 y166 z166 st166 hQ166
            subst l166 y166 z166
            obtain ⟨rfl, Nq166, eq166⟩ := hQ166
            have N166 := Fr.app N165 Nq166
            refine W.s2 (mkF m 265 #[.val (.long y1), .second, .val (.long y2), .second, .val (.long y3), .second, .val (.long y4), .second, .val (.int xs), .val (.long l1), .second, .val (.long g1), .second, .val (.long l2), .second, .val (.long g2), .second, .val (.ref sA), .val (.ref b101), .val (.int (0 : Int32)), .val (.int (1 : Int32)), .val (.int (0 : Int32)), .val (.int (1 : Int32)), .val (.long r193), .second, .val (.long r203), .second, .val (.long r213), .second, .val (.long r223), .second] [(.int (1 : Int32))]) st166 ?_
            refine W.ifc X166 hx (hb hby at_265) (pc' := 272) (pc'' := 268) (by decide) (by decide) rfl (fun (c265 : (1 : Int32) = (0 : Int32)) => ?_) (fun (c265 : ¬ (1 : Int32) = (0 : Int32)) => ?_)
            · exact absurd c265 (by decide)
            · refine W.s1 (mkF m 269 #[.val (.long y1), .second, .val (.long y2), .second, .val (.long y3), .second, .val (.long y4), .second, .val (.int xs), .val (.long l1), .second, .val (.long g1), .second, .val (.long l2), .second, .val (.long g2), .second, .val (.ref sA), .val (.ref b101), .val (.int (0 : Int32)), .val (.int (1 : Int32)), .val (.int (0 : Int32)), .val (.int (1 : Int32)), .val (.long r193), .second, .val (.long r203), .second, .val (.long r213), .second, .val (.long r223), .second] [(.int (1 : Int32))]) (fun _ kx_ => XS.iconst X166.here hx rfl (hb hby at_268) kx_) ?_
              refine W.s1 (mkF m 273 #[.val (.long y1), .second, .val (.long y2), .second, .val (.long y3), .second, .val (.long y4), .second, .val (.int xs), .val (.long l1), .second, .val (.long g1), .second, .val (.long l2), .second, .val (.long g2), .second, .val (.ref sA), .val (.ref b101), .val (.int (0 : Int32)), .val (.int (1 : Int32)), .val (.int (0 : Int32)), .val (.int (1 : Int32)), .val (.long r193), .second, .val (.long r203), .second, .val (.long r213), .second, .val (.long r223), .second] [(.int (1 : Int32))]) (fun _ kx_ => XS.goto X166.here hx rfl (pc0 := 269) (pc' := 273) rfl (hb hby at_269) (by decide) (by decide) kx_) ?_
              exact W.retZ X166 hx hlk (t := .boolean) (z' := (1 : Int32)) Bd.returns (by simp) (hb hby at_273) rfl (by show Q0 Z y1 y2 y3 y4 xs aV aI aU h0 n0 _ T166.heap _; rw [eq166]; exact ⟨rfl, N166⟩) (by decide) (by decide)
  refine W.s1 (mkF m 2 #[.val (.long y1), .second, .val (.long y2), .second, .val (.long y3), .second, .val (.long y4), .second, .val (.int xs), .unset, .unset, .unset, .unset, .unset, .unset, .unset, .unset, .unset, .unset, .unset, .unset, .unset, .unset, .unset, .unset, .unset, .unset, .unset, .unset, .unset, .unset] [(.int xs)]) (fun _ kx_ => XS.iload X0.here hx rfl (hb hby at_0) rfl kx_) ?_
  refine W.s1 (mkF m 3 #[.val (.long y1), .second, .val (.long y2), .second, .val (.long y3), .second, .val (.long y4), .second, .val (.int xs), .unset, .unset, .unset, .unset, .unset, .unset, .unset, .unset, .unset, .unset, .unset, .unset, .unset, .unset, .unset, .unset, .unset, .unset, .unset, .unset, .unset, .unset] [(.int (1 : Int32)), (.int xs)]) (fun _ kx_ => XS.iconst X0.here hx rfl (hb hby at_2) kx_) ?_
  refine W.s1 (mkF m 4 #[.val (.long y1), .second, .val (.long y2), .second, .val (.long y3), .second, .val (.long y4), .second, .val (.int xs), .unset, .unset, .unset, .unset, .unset, .unset, .unset, .unset, .unset, .unset, .unset, .unset, .unset, .unset, .unset, .unset, .unset, .unset, .unset, .unset, .unset, .unset] [(.int (xs &&& (1 : Int32)))]) (fun _ kx_ => XS.iand X0.here hx rfl (hb hby at_3) rfl kx_) ?_
  refine W.ifc X0 hx (hb hby at_4) (pc' := 13) (pc'' := 7) (by decide) (by decide) rfl (fun (c4 : (xs &&& (1 : Int32)) = (0 : Int32)) => ?_) (fun (c4 : ¬ (xs &&& (1 : Int32)) = (0 : Int32)) => ?_)
  · refine W.s1 (mkF m 14 #[.val (.long y1), .second, .val (.long y2), .second, .val (.long y3), .second, .val (.long y4), .second, .val (.int xs), .unset, .unset, .unset, .unset, .unset, .unset, .unset, .unset, .unset, .unset, .unset, .unset, .unset, .unset, .unset, .unset, .unset, .unset, .unset, .unset, .unset, .unset] [(.long y1)]) (fun _ kx_ => XS.lloadN X0.here hx rfl (hb hby at_13) rfl kx_) ?_
    refine W.s1 (mkF m 16 #[.val (.long y1), .second, .val (.long y2), .second, .val (.long y3), .second, .val (.long y4), .second, .val (.int xs), .val (.long y1), .second, .unset, .unset, .unset, .unset, .unset, .unset, .unset, .unset, .unset, .unset, .unset, .unset, .unset, .unset, .unset, .unset, .unset, .unset, .unset, .unset] []) (fun _ kx_ => XS.lstore X0.here hx rfl (hb hby at_14) rfl (l' := #[.val (.long y1), .second, .val (.long y2), .second, .val (.long y3), .second, .val (.long y4), .second, .val (.int xs), .val (.long y1), .second, .unset, .unset, .unset, .unset, .unset, .unset, .unset, .unset, .unset, .unset, .unset, .unset, .unset, .unset, .unset, .unset, .unset, .unset, .unset, .unset]) rfl kx_) ?_
    refine W.s1 (mkF m 18 #[.val (.long y1), .second, .val (.long y2), .second, .val (.long y3), .second, .val (.long y4), .second, .val (.int xs), .val (.long y1), .second, .unset, .unset, .unset, .unset, .unset, .unset, .unset, .unset, .unset, .unset, .unset, .unset, .unset, .unset, .unset, .unset, .unset, .unset, .unset, .unset] [(.int xs)]) (fun _ kx_ => XS.iload X0.here hx rfl (hb hby at_16) rfl kx_) ?_
    refine W.s1 (mkF m 19 #[.val (.long y1), .second, .val (.long y2), .second, .val (.long y3), .second, .val (.long y4), .second, .val (.int xs), .val (.long y1), .second, .unset, .unset, .unset, .unset, .unset, .unset, .unset, .unset, .unset, .unset, .unset, .unset, .unset, .unset, .unset, .unset, .unset, .unset, .unset, .unset] [(.int (2 : Int32)), (.int xs)]) (fun _ kx_ => XS.iconst X0.here hx rfl (hb hby at_18) kx_) ?_
    refine W.s1 (mkF m 20 #[.val (.long y1), .second, .val (.long y2), .second, .val (.long y3), .second, .val (.long y4), .second, .val (.int xs), .val (.long y1), .second, .unset, .unset, .unset, .unset, .unset, .unset, .unset, .unset, .unset, .unset, .unset, .unset, .unset, .unset, .unset, .unset, .unset, .unset, .unset, .unset] [(.int (xs &&& (2 : Int32)))]) (fun _ kx_ => XS.iand X0.here hx rfl (hb hby at_19) rfl kx_) ?_
    refine W.ifc X0 hx (hb hby at_20) (pc' := 29) (pc'' := 23) (by decide) (by decide) rfl (fun (c20 : (xs &&& (2 : Int32)) = (0 : Int32)) => ?_) (fun (c20 : ¬ (xs &&& (2 : Int32)) = (0 : Int32)) => ?_)
    · refine W.s1 (mkF m 30 #[.val (.long y1), .second, .val (.long y2), .second, .val (.long y3), .second, .val (.long y4), .second, .val (.int xs), .val (.long y1), .second, .unset, .unset, .unset, .unset, .unset, .unset, .unset, .unset, .unset, .unset, .unset, .unset, .unset, .unset, .unset, .unset, .unset, .unset, .unset, .unset] [(.long y2)]) (fun _ kx_ => XS.lloadN X0.here hx rfl (hb hby at_29) rfl kx_) ?_
      refine W.s1 (mkF m 32 #[.val (.long y1), .second, .val (.long y2), .second, .val (.long y3), .second, .val (.long y4), .second, .val (.int xs), .val (.long y1), .second, .val (.long y2), .second, .unset, .unset, .unset, .unset, .unset, .unset, .unset, .unset, .unset, .unset, .unset, .unset, .unset, .unset, .unset, .unset, .unset, .unset] []) (fun _ kx_ => XS.lstore X0.here hx rfl (hb hby at_30) rfl (l' := #[.val (.long y1), .second, .val (.long y2), .second, .val (.long y3), .second, .val (.long y4), .second, .val (.int xs), .val (.long y1), .second, .val (.long y2), .second, .unset, .unset, .unset, .unset, .unset, .unset, .unset, .unset, .unset, .unset, .unset, .unset, .unset, .unset, .unset, .unset, .unset, .unset]) rfl kx_) ?_
      refine W.s1 (mkF m 34 #[.val (.long y1), .second, .val (.long y2), .second, .val (.long y3), .second, .val (.long y4), .second, .val (.int xs), .val (.long y1), .second, .val (.long y2), .second, .unset, .unset, .unset, .unset, .unset, .unset, .unset, .unset, .unset, .unset, .unset, .unset, .unset, .unset, .unset, .unset, .unset, .unset] [(.int xs)]) (fun _ kx_ => XS.iload X0.here hx rfl (hb hby at_32) rfl kx_) ?_
      refine W.s1 (mkF m 35 #[.val (.long y1), .second, .val (.long y2), .second, .val (.long y3), .second, .val (.long y4), .second, .val (.int xs), .val (.long y1), .second, .val (.long y2), .second, .unset, .unset, .unset, .unset, .unset, .unset, .unset, .unset, .unset, .unset, .unset, .unset, .unset, .unset, .unset, .unset, .unset, .unset] [(.int (4 : Int32)), (.int xs)]) (fun _ kx_ => XS.iconst X0.here hx rfl (hb hby at_34) kx_) ?_
      refine W.s1 (mkF m 36 #[.val (.long y1), .second, .val (.long y2), .second, .val (.long y3), .second, .val (.long y4), .second, .val (.int xs), .val (.long y1), .second, .val (.long y2), .second, .unset, .unset, .unset, .unset, .unset, .unset, .unset, .unset, .unset, .unset, .unset, .unset, .unset, .unset, .unset, .unset, .unset, .unset] [(.int (xs &&& (4 : Int32)))]) (fun _ kx_ => XS.iand X0.here hx rfl (hb hby at_35) rfl kx_) ?_
      refine W.ifc X0 hx (hb hby at_36) (pc' := 45) (pc'' := 39) (by decide) (by decide) rfl (fun (c36 : (xs &&& (4 : Int32)) = (0 : Int32)) => ?_) (fun (c36 : ¬ (xs &&& (4 : Int32)) = (0 : Int32)) => ?_)
      · refine W.s1 (mkF m 47 #[.val (.long y1), .second, .val (.long y2), .second, .val (.long y3), .second, .val (.long y4), .second, .val (.int xs), .val (.long y1), .second, .val (.long y2), .second, .unset, .unset, .unset, .unset, .unset, .unset, .unset, .unset, .unset, .unset, .unset, .unset, .unset, .unset, .unset, .unset, .unset, .unset] [(.long y3)]) (fun _ kx_ => XS.lload X0.here hx rfl (hb hby at_45) rfl kx_) ?_
        refine W.s1 (mkF m 49 #[.val (.long y1), .second, .val (.long y2), .second, .val (.long y3), .second, .val (.long y4), .second, .val (.int xs), .val (.long y1), .second, .val (.long y2), .second, .val (.long y3), .second, .unset, .unset, .unset, .unset, .unset, .unset, .unset, .unset, .unset, .unset, .unset, .unset, .unset, .unset, .unset, .unset] []) (fun _ kx_ => XS.lstore X0.here hx rfl (hb hby at_47) rfl (l' := #[.val (.long y1), .second, .val (.long y2), .second, .val (.long y3), .second, .val (.long y4), .second, .val (.int xs), .val (.long y1), .second, .val (.long y2), .second, .val (.long y3), .second, .unset, .unset, .unset, .unset, .unset, .unset, .unset, .unset, .unset, .unset, .unset, .unset, .unset, .unset, .unset, .unset]) rfl kx_) ?_
        refine W.s1 (mkF m 51 #[.val (.long y1), .second, .val (.long y2), .second, .val (.long y3), .second, .val (.long y4), .second, .val (.int xs), .val (.long y1), .second, .val (.long y2), .second, .val (.long y3), .second, .unset, .unset, .unset, .unset, .unset, .unset, .unset, .unset, .unset, .unset, .unset, .unset, .unset, .unset, .unset, .unset] [(.int xs)]) (fun _ kx_ => XS.iload X0.here hx rfl (hb hby at_49) rfl kx_) ?_
        refine W.s1 (mkF m 53 #[.val (.long y1), .second, .val (.long y2), .second, .val (.long y3), .second, .val (.long y4), .second, .val (.int xs), .val (.long y1), .second, .val (.long y2), .second, .val (.long y3), .second, .unset, .unset, .unset, .unset, .unset, .unset, .unset, .unset, .unset, .unset, .unset, .unset, .unset, .unset, .unset, .unset] [(.int (8 : Int32)), (.int xs)]) (fun _ kx_ => XS.bipush X0.here hx rfl (hb hby at_51) kx_) ?_
        refine W.s1 (mkF m 54 #[.val (.long y1), .second, .val (.long y2), .second, .val (.long y3), .second, .val (.long y4), .second, .val (.int xs), .val (.long y1), .second, .val (.long y2), .second, .val (.long y3), .second, .unset, .unset, .unset, .unset, .unset, .unset, .unset, .unset, .unset, .unset, .unset, .unset, .unset, .unset, .unset, .unset] [(.int (xs &&& (8 : Int32)))]) (fun _ kx_ => XS.iand X0.here hx rfl (hb hby at_53) rfl kx_) ?_
        refine W.ifc X0 hx (hb hby at_54) (pc' := 63) (pc'' := 57) (by decide) (by decide) rfl (fun (c54 : (xs &&& (8 : Int32)) = (0 : Int32)) => ?_) (fun (c54 : ¬ (xs &&& (8 : Int32)) = (0 : Int32)) => ?_)
        · refine W.s1 (mkF m 65 #[.val (.long y1), .second, .val (.long y2), .second, .val (.long y3), .second, .val (.long y4), .second, .val (.int xs), .val (.long y1), .second, .val (.long y2), .second, .val (.long y3), .second, .unset, .unset, .unset, .unset, .unset, .unset, .unset, .unset, .unset, .unset, .unset, .unset, .unset, .unset, .unset, .unset] [(.long y4)]) (fun _ kx_ => XS.lload X0.here hx rfl (hb hby at_63) rfl kx_) ?_
          refine W.s1 (mkF m 67 #[.val (.long y1), .second, .val (.long y2), .second, .val (.long y3), .second, .val (.long y4), .second, .val (.int xs), .val (.long y1), .second, .val (.long y2), .second, .val (.long y3), .second, .val (.long y4), .second, .unset, .unset, .unset, .unset, .unset, .unset, .unset, .unset, .unset, .unset, .unset, .unset, .unset, .unset] []) (fun _ kx_ => XS.lstore X0.here hx rfl (hb hby at_65) rfl (l' := #[.val (.long y1), .second, .val (.long y2), .second, .val (.long y3), .second, .val (.long y4), .second, .val (.int xs), .val (.long y1), .second, .val (.long y2), .second, .val (.long y3), .second, .val (.long y4), .second, .unset, .unset, .unset, .unset, .unset, .unset, .unset, .unset, .unset, .unset, .unset, .unset, .unset, .unset]) rfl kx_) ?_
          refine W.s1 (mkF m 69 #[.val (.long y1), .second, .val (.long y2), .second, .val (.long y3), .second, .val (.long y4), .second, .val (.int xs), .val (.long y1), .second, .val (.long y2), .second, .val (.long y3), .second, .val (.long y4), .second, .unset, .unset, .unset, .unset, .unset, .unset, .unset, .unset, .unset, .unset, .unset, .unset, .unset, .unset] [(.int xs)]) (fun _ kx_ => XS.iload X0.here hx rfl (hb hby at_67) rfl kx_) ?_
          refine W.s1 (mkF m 71 #[.val (.long y1), .second, .val (.long y2), .second, .val (.long y3), .second, .val (.long y4), .second, .val (.int xs), .val (.long y1), .second, .val (.long y2), .second, .val (.long y3), .second, .val (.long y4), .second, .unset, .unset, .unset, .unset, .unset, .unset, .unset, .unset, .unset, .unset, .unset, .unset, .unset, .unset] [(.int (32 : Int32)), (.int xs)]) (fun _ kx_ => XS.bipush X0.here hx rfl (hb hby at_69) kx_) ?_
          refine W.s1 (mkF m 72 #[.val (.long y1), .second, .val (.long y2), .second, .val (.long y3), .second, .val (.long y4), .second, .val (.int xs), .val (.long y1), .second, .val (.long y2), .second, .val (.long y3), .second, .val (.long y4), .second, .unset, .unset, .unset, .unset, .unset, .unset, .unset, .unset, .unset, .unset, .unset, .unset, .unset, .unset] [(.int (xs &&& (32 : Int32)))]) (fun _ kx_ => XS.iand X0.here hx rfl (hb hby at_71) rfl kx_) ?_
          refine W.ifc X0 hx (hb hby at_72) (pc' := 83) (pc'' := 75) (by decide) (by decide) rfl (fun (c72 : (xs &&& (32 : Int32)) = (0 : Int32)) => ?_) (fun (c72 : ¬ (xs &&& (32 : Int32)) = (0 : Int32)) => ?_)
          · refine W.s1 (mkF m 85 #[.val (.long y1), .second, .val (.long y2), .second, .val (.long y3), .second, .val (.long y4), .second, .val (.int xs), .val (.long y1), .second, .val (.long y2), .second, .val (.long y3), .second, .val (.long y4), .second, .unset, .unset, .unset, .unset, .unset, .unset, .unset, .unset, .unset, .unset, .unset, .unset, .unset, .unset] [(.int xs)]) (fun _ kx_ => XS.iload X0.here hx rfl (hb hby at_83) rfl kx_) ?_
            refine W.s1 (mkF m 87 #[.val (.long y1), .second, .val (.long y2), .second, .val (.long y3), .second, .val (.long y4), .second, .val (.int xs), .val (.long y1), .second, .val (.long y2), .second, .val (.long y3), .second, .val (.long y4), .second, .unset, .unset, .unset, .unset, .unset, .unset, .unset, .unset, .unset, .unset, .unset, .unset, .unset, .unset] [(.int (64 : Int32)), (.int xs)]) (fun _ kx_ => XS.bipush X0.here hx rfl (hb hby at_85) kx_) ?_
            refine W.s1 (mkF m 88 #[.val (.long y1), .second, .val (.long y2), .second, .val (.long y3), .second, .val (.long y4), .second, .val (.int xs), .val (.long y1), .second, .val (.long y2), .second, .val (.long y3), .second, .val (.long y4), .second, .unset, .unset, .unset, .unset, .unset, .unset, .unset, .unset, .unset, .unset, .unset, .unset, .unset, .unset] [(.int (xs &&& (64 : Int32)))]) (fun _ kx_ => XS.iand X0.here hx rfl (hb hby at_87) rfl kx_) ?_
            refine W.ifc X0 hx (hb hby at_88) (pc' := 99) (pc'' := 91) (by decide) (by decide) rfl (fun (c88 : (xs &&& (64 : Int32)) = (0 : Int32)) => ?_) (fun (c88 : ¬ (xs &&& (64 : Int32)) = (0 : Int32)) => ?_)
            · refine W.gets X0 hx hZ hown (host := "") (Or.inl (hw _ (List.mem_of_getElem? (i := 2) rfl))) Via.refl e0 (Sta.ext O0.2 S_VALID) (hb hby at_99) (pc' := 102) rfl (fun T167 X167 e167 => ?_)
              refine W.s1 (mkF m 104 #[.val (.long y1), .second, .val (.long y2), .second, .val (.long y3), .second, .val (.long y4), .second, .val (.int xs), .val (.long y1), .second, .val (.long y2), .second, .val (.long y3), .second, .val (.long y4), .second, .val (.ref aV), .unset, .unset, .unset, .unset, .unset, .unset, .unset, .unset, .unset, .unset, .unset, .unset, .unset] []) (fun _ kx_ => XS.astore X167.here hx rfl (hb hby at_102) rfl rfl (l' := #[.val (.long y1), .second, .val (.long y2), .second, .val (.long y3), .second, .val (.long y4), .second, .val (.int xs), .val (.long y1), .second, .val (.long y2), .second, .val (.long y3), .second, .val (.long y4), .second, .val (.ref aV), .unset, .unset, .unset, .unset, .unset, .unset, .unset, .unset, .unset, .unset, .unset, .unset, .unset]) rfl kx_) ?_
              exact J104 _ _ _ _ _ _ X167 e167 E_VALID
            · refine W.gets X0 hx hZ hown (host := "") (Or.inl (hw _ (List.mem_of_getElem? (i := 89) rfl))) Via.refl e0 (Sta.ext O0.2 S_UNDECIDED) (hb hby at_91) (pc' := 94) rfl (fun T168 X168 e168 => ?_)
              refine W.s1 (mkF m 96 #[.val (.long y1), .second, .val (.long y2), .second, .val (.long y3), .second, .val (.long y4), .second, .val (.int xs), .val (.long y1), .second, .val (.long y2), .second, .val (.long y3), .second, .val (.long y4), .second, .val (.ref aU), .unset, .unset, .unset, .unset, .unset, .unset, .unset, .unset, .unset, .unset, .unset, .unset, .unset] []) (fun _ kx_ => XS.astore X168.here hx rfl (hb hby at_94) rfl rfl (l' := #[.val (.long y1), .second, .val (.long y2), .second, .val (.long y3), .second, .val (.long y4), .second, .val (.int xs), .val (.long y1), .second, .val (.long y2), .second, .val (.long y3), .second, .val (.long y4), .second, .val (.ref aU), .unset, .unset, .unset, .unset, .unset, .unset, .unset, .unset, .unset, .unset, .unset, .unset, .unset]) rfl kx_) ?_
              refine W.s1 (mkF m 104 #[.val (.long y1), .second, .val (.long y2), .second, .val (.long y3), .second, .val (.long y4), .second, .val (.int xs), .val (.long y1), .second, .val (.long y2), .second, .val (.long y3), .second, .val (.long y4), .second, .val (.ref aU), .unset, .unset, .unset, .unset, .unset, .unset, .unset, .unset, .unset, .unset, .unset, .unset, .unset] []) (fun _ kx_ => XS.goto X168.here hx rfl (pc0 := 96) (pc' := 104) rfl (hb hby at_96) (by decide) (by decide) kx_) ?_
              exact J104 _ _ _ _ _ _ X168 e168 E_UNDECIDED
          · refine W.gets X0 hx hZ hown (host := "") (Or.inl (hw _ (List.mem_of_getElem? (i := 87) rfl))) Via.refl e0 (Sta.ext O0.2 S_INVALID) (hb hby at_75) (pc' := 78) rfl (fun T169 X169 e169 => ?_)
            refine W.s1 (mkF m 80 #[.val (.long y1), .second, .val (.long y2), .second, .val (.long y3), .second, .val (.long y4), .second, .val (.int xs), .val (.long y1), .second, .val (.long y2), .second, .val (.long y3), .second, .val (.long y4), .second, .val (.ref aI), .unset, .unset, .unset, .unset, .unset, .unset, .unset, .unset, .unset, .unset, .unset, .unset, .unset] []) (fun _ kx_ => XS.astore X169.here hx rfl (hb hby at_78) rfl rfl (l' := #[.val (.long y1), .second, .val (.long y2), .second, .val (.long y3), .second, .val (.long y4), .second, .val (.int xs), .val (.long y1), .second, .val (.long y2), .second, .val (.long y3), .second, .val (.long y4), .second, .val (.ref aI), .unset, .unset, .unset, .unset, .unset, .unset, .unset, .unset, .unset, .unset, .unset, .unset, .unset]) rfl kx_) ?_
            refine W.s1 (mkF m 104 #[.val (.long y1), .second, .val (.long y2), .second, .val (.long y3), .second, .val (.long y4), .second, .val (.int xs), .val (.long y1), .second, .val (.long y2), .second, .val (.long y3), .second, .val (.long y4), .second, .val (.ref aI), .unset, .unset, .unset, .unset, .unset, .unset, .unset, .unset, .unset, .unset, .unset, .unset, .unset] []) (fun _ kx_ => XS.goto X169.here hx rfl (pc0 := 80) (pc' := 104) rfl (hb hby at_80) (by decide) (by decide) kx_) ?_
            exact J104 _ _ _ _ _ _ X169 e169 E_INVALID
        · refine W.s1 (mkF m 60 #[.val (.long y1), .second, .val (.long y2), .second, .val (.long y3), .second, .val (.long y4), .second, .val (.int xs), .val (.long y1), .second, .val (.long y2), .second, .val (.long y3), .second, .unset, .unset, .unset, .unset, .unset, .unset, .unset, .unset, .unset, .unset, .unset, .unset, .unset, .unset, .unset, .unset] [(.long (9223372036854775807 : Int64))]) (fun _ kx_ => X0.ldc2Long hx hown (mvT hZ (hw _ (List.mem_of_getElem? (i := 1) rfl))) (g := (mkF m 57 #[.val (.long y1), .second, .val (.long y2), .second, .val (.long y3), .second, .val (.long y4), .second, .val (.int xs), .val (.long y1), .second, .val (.long y2), .second, .val (.long y3), .second, .unset, .unset, .unset, .unset, .unset, .unset, .unset, .unset, .unset, .unset, .unset, .unset, .unset, .unset, .unset, .unset] [])) rfl (hb hby at_57) _ kx_) ?_
          refine W.s1 (mkF m 65 #[.val (.long y1), .second, .val (.long y2), .second, .val (.long y3), .second, .val (.long y4), .second, .val (.int xs), .val (.long y1), .second, .val (.long y2), .second, .val (.long y3), .second, .unset, .unset, .unset, .unset, .unset, .unset, .unset, .unset, .unset, .unset, .unset, .unset, .unset, .unset, .unset, .unset] [(.long (9223372036854775807 : Int64))]) (fun _ kx_ => XS.goto X0.here hx rfl (pc0 := 60) (pc' := 65) rfl (hb hby at_60) (by decide) (by decide) kx_) ?_
          refine W.s1 (mkF m 67 #[.val (.long y1), .second, .val (.long y2), .second, .val (.long y3), .second, .val (.long y4), .second, .val (.int xs), .val (.long y1), .second, .val (.long y2), .second, .val (.long y3), .second, .val (.long (9223372036854775807 : Int64)), .second, .unset, .unset, .unset, .unset, .unset, .unset, .unset, .unset, .unset, .unset, .unset, .unset, .unset, .unset] []) (fun _ kx_ => XS.lstore X0.here hx rfl (hb hby at_65) rfl (l' := #[.val (.long y1), .second, .val (.long y2), .second, .val (.long y3), .second, .val (.long y4), .second, .val (.int xs), .val (.long y1), .second, .val (.long y2), .second, .val (.long y3), .second, .val (.long (9223372036854775807 : Int64)), .second, .unset, .unset, .unset, .unset, .unset, .unset, .unset, .unset, .unset, .unset, .unset, .unset, .unset, .unset]) rfl kx_) ?_
          refine W.s1 (mkF m 69 #[.val (.long y1), .second, .val (.long y2), .second, .val (.long y3), .second, .val (.long y4), .second, .val (.int xs), .val (.long y1), .second, .val (.long y2), .second, .val (.long y3), .second, .val (.long (9223372036854775807 : Int64)), .second, .unset, .unset, .unset, .unset, .unset, .unset, .unset, .unset, .unset, .unset, .unset, .unset, .unset, .unset] [(.int xs)]) (fun _ kx_ => XS.iload X0.here hx rfl (hb hby at_67) rfl kx_) ?_
          refine W.s1 (mkF m 71 #[.val (.long y1), .second, .val (.long y2), .second, .val (.long y3), .second, .val (.long y4), .second, .val (.int xs), .val (.long y1), .second, .val (.long y2), .second, .val (.long y3), .second, .val (.long (9223372036854775807 : Int64)), .second, .unset, .unset, .unset, .unset, .unset, .unset, .unset, .unset, .unset, .unset, .unset, .unset, .unset, .unset] [(.int (32 : Int32)), (.int xs)]) (fun _ kx_ => XS.bipush X0.here hx rfl (hb hby at_69) kx_) ?_
          refine W.s1 (mkF m 72 #[.val (.long y1), .second, .val (.long y2), .second, .val (.long y3), .second, .val (.long y4), .second, .val (.int xs), .val (.long y1), .second, .val (.long y2), .second, .val (.long y3), .second, .val (.long (9223372036854775807 : Int64)), .second, .unset, .unset, .unset, .unset, .unset, .unset, .unset, .unset, .unset, .unset, .unset, .unset, .unset, .unset] [(.int (xs &&& (32 : Int32)))]) (fun _ kx_ => XS.iand X0.here hx rfl (hb hby at_71) rfl kx_) ?_
          refine W.ifc X0 hx (hb hby at_72) (pc' := 83) (pc'' := 75) (by decide) (by decide) rfl (fun (c72 : (xs &&& (32 : Int32)) = (0 : Int32)) => ?_) (fun (c72 : ¬ (xs &&& (32 : Int32)) = (0 : Int32)) => ?_)
          · refine W.s1 (mkF m 85 #[.val (.long y1), .second, .val (.long y2), .second, .val (.long y3), .second, .val (.long y4), .second, .val (.int xs), .val (.long y1), .second, .val (.long y2), .second, .val (.long y3), .second, .val (.long (9223372036854775807 : Int64)), .second, .unset, .unset, .unset, .unset, .unset, .unset, .unset, .unset, .unset, .unset, .unset, .unset, .unset, .unset] [(.int xs)]) (fun _ kx_ => XS.iload X0.here hx rfl (hb hby at_83) rfl kx_) ?_
            refine W.s1 (mkF m 87 #[.val (.long y1), .second, .val (.long y2), .second, .val (.long y3), .second, .val (.long y4), .second, .val (.int xs), .val (.long y1), .second, .val (.long y2), .second, .val (.long y3), .second, .val (.long (9223372036854775807 : Int64)), .second, .unset, .unset, .unset, .unset, .unset, .unset, .unset, .unset, .unset, .unset, .unset, .unset, .unset, .unset] [(.int (64 : Int32)), (.int xs)]) (fun _ kx_ => XS.bipush X0.here hx rfl (hb hby at_85) kx_) ?_
            refine W.s1 (mkF m 88 #[.val (.long y1), .second, .val (.long y2), .second, .val (.long y3), .second, .val (.long y4), .second, .val (.int xs), .val (.long y1), .second, .val (.long y2), .second, .val (.long y3), .second, .val (.long (9223372036854775807 : Int64)), .second, .unset, .unset, .unset, .unset, .unset, .unset, .unset, .unset, .unset, .unset, .unset, .unset, .unset, .unset] [(.int (xs &&& (64 : Int32)))]) (fun _ kx_ => XS.iand X0.here hx rfl (hb hby at_87) rfl kx_) ?_
            refine W.ifc X0 hx (hb hby at_88) (pc' := 99) (pc'' := 91) (by decide) (by decide) rfl (fun (c88 : (xs &&& (64 : Int32)) = (0 : Int32)) => ?_) (fun (c88 : ¬ (xs &&& (64 : Int32)) = (0 : Int32)) => ?_)
            · refine W.gets X0 hx hZ hown (host := "") (Or.inl (hw _ (List.mem_of_getElem? (i := 2) rfl))) Via.refl e0 (Sta.ext O0.2 S_VALID) (hb hby at_99) (pc' := 102) rfl (fun T170 X170 e170 => ?_)
              refine W.s1 (mkF m 104 #[.val (.long y1), .second, .val (.long y2), .second, .val (.long y3), .second, .val (.long y4), .second, .val (.int xs), .val (.long y1), .second, .val (.long y2), .second, .val (.long y3), .second, .val (.long (9223372036854775807 : Int64)), .second, .val (.ref aV), .unset, .unset, .unset, .unset, .unset, .unset, .unset, .unset, .unset, .unset, .unset, .unset, .unset] []) (fun _ kx_ => XS.astore X170.here hx rfl (hb hby at_102) rfl rfl (l' := #[.val (.long y1), .second, .val (.long y2), .second, .val (.long y3), .second, .val (.long y4), .second, .val (.int xs), .val (.long y1), .second, .val (.long y2), .second, .val (.long y3), .second, .val (.long (9223372036854775807 : Int64)), .second, .val (.ref aV), .unset, .unset, .unset, .unset, .unset, .unset, .unset, .unset, .unset, .unset, .unset, .unset, .unset]) rfl kx_) ?_
              exact J104 _ _ _ _ _ _ X170 e170 E_VALID
            · refine W.gets X0 hx hZ hown (host := "") (Or.inl (hw _ (List.mem_of_getElem? (i := 89) rfl))) Via.refl e0 (Sta.ext O0.2 S_UNDECIDED) (hb hby at_91) (pc' := 94) rfl (fun T171 X171 e171 => ?_)
              refine W.s1 (mkF m 96 #[.val (.long y1), .second, .val (.long y2), .second, .val (.long y3), .second, .val (.long y4), .second, .val (.int xs), .val (.long y1), .second, .val (.long y2), .second, .val (.long y3), .second, .val (.long (9223372036854775807 : Int64)), .second, .val (.ref aU), .unset, .unset, .unset, .unset, .unset, .unset, .unset, .unset, .unset, .unset, .unset, .unset, .unset] []) (fun _ kx_ => XS.astore X171.here hx rfl (hb hby at_94) rfl rfl (l' := #[.val (.long y1), .second, .val (.long y2), .second, .val (.long y3), .second, .val (.long y4), .second, .val (.int xs), .val (.long y1), .second, .val (.long y2), .second, .val (.long y3), .second, .val (.long (9223372036854775807 : Int64)), .second, .val (.ref aU), .unset, .unset, .unset, .unset, .unset, .unset, .unset, .unset, .unset, .unset, .unset, .unset, .unset]) rfl kx_) ?_
              refine W.s1 (mkF m 104 #[.val (.long y1), .second, .val (.long y2), .second, .val (.long y3), .second, .val (.long y4), .second, .val (.int xs), .val (.long y1), .second, .val (.long y2), .second, .val (.long y3), .second, .val (.long (9223372036854775807 : Int64)), .second, .val (.ref aU), .unset, .unset, .unset, .unset, .unset, .unset, .unset, .unset, .unset, .unset, .unset, .unset, .unset] []) (fun _ kx_ => XS.goto X171.here hx rfl (pc0 := 96) (pc' := 104) rfl (hb hby at_96) (by decide) (by decide) kx_) ?_
              exact J104 _ _ _ _ _ _ X171 e171 E_UNDECIDED
          · refine W.gets X0 hx hZ hown (host := "") (Or.inl (hw _ (List.mem_of_getElem? (i := 87) rfl))) Via.refl e0 (Sta.ext O0.2 S_INVALID) (hb hby at_75) (pc' := 78) rfl (fun T172 X172 e172 => ?_)
            refine W.s1 (mkF m 80 #[.val (.long y1), .second, .val (.long y2), .second, .val (.long y3), .second, .val (.long y4), .second, .val (.int xs), .val (.long y1), .second, .val (.long y2), .second, .val (.long y3), .second, .val (.long (9223372036854775807 : Int64)), .second, .val (.ref aI), .unset, .unset, .unset, .unset, .unset, .unset, .unset, .unset, .unset, .unset, .unset, .unset, .unset] []) (fun _ kx_ => XS.astore X172.here hx rfl (hb hby at_78) rfl rfl (l' := #[.val (.long y1), .second, .val (.long y2), .second, .val (.long y3), .second, .val (.long y4), .second, .val (.int xs), .val (.long y1), .second, .val (.long y2), .second, .val (.long y3), .second, .val (.long (9223372036854775807 : Int64)), .second, .val (.ref aI), .unset, .unset, .unset, .unset, .unset, .unset, .unset, .unset, .unset, .unset, .unset, .unset, .unset]) rfl kx_) ?_
            refine W.s1 (mkF m 104 #[.val (.long y1), .second, .val (.long y2), .second, .val (.long y3), .second, .val (.long y4), .second, .val (.int xs), .val (.long y1), .second, .val (.long y2), .second, .val (.long y3), .second, .val (.long (9223372036854775807 : Int64)), .second, .val (.ref aI), .unset, .unset, .unset, .unset, .unset, .unset, .unset, .unset, .unset, .unset, .unset, .unset, .unset] []) (fun _ kx_ => XS.goto X172.here hx rfl (pc0 := 80) (pc' := 104) rfl (hb hby at_80) (by decide) (by decide) kx_) ?_
            exact J104 _ _ _ _ _ _ X172 e172 E_INVALID
      · refine W.s1 (mkF m 42 #[.val (.long y1), .second, .val (.long y2), .second, .val (.long y3), .second, .val (.long y4), .second, .val (.int xs), .val (.long y1), .second, .val (.long y2), .second, .unset, .unset, .unset, .unset, .unset, .unset, .unset, .unset, .unset, .unset, .unset, .unset, .unset, .unset, .unset, .unset, .unset, .unset] [(.long (-9223372036854775808 : Int64))]) (fun _ kx_ => X0.ldc2Long hx hown (mvT hZ (hw _ (List.mem_of_getElem? (i := 0) rfl))) (g := (mkF m 39 #[.val (.long y1), .second, .val (.long y2), .second, .val (.long y3), .second, .val (.long y4), .second, .val (.int xs), .val (.long y1), .second, .val (.long y2), .second, .unset, .unset, .unset, .unset, .unset, .unset, .unset, .unset, .unset, .unset, .unset, .unset, .unset, .unset, .unset, .unset, .unset, .unset] [])) rfl (hb hby at_39) _ kx_) ?_
        refine W.s1 (mkF m 47 #[.val (.long y1), .second, .val (.long y2), .second, .val (.long y3), .second, .val (.long y4), .second, .val (.int xs), .val (.long y1), .second, .val (.long y2), .second, .unset, .unset, .unset, .unset, .unset, .unset, .unset, .unset, .unset, .unset, .unset, .unset, .unset, .unset, .unset, .unset, .unset, .unset] [(.long (-9223372036854775808 : Int64))]) (fun _ kx_ => XS.goto X0.here hx rfl (pc0 := 42) (pc' := 47) rfl (hb hby at_42) (by decide) (by decide) kx_) ?_
        refine W.s1 (mkF m 49 #[.val (.long y1), .second, .val (.long y2), .second, .val (.long y3), .second, .val (.long y4), .second, .val (.int xs), .val (.long y1), .second, .val (.long y2), .second, .val (.long (-9223372036854775808 : Int64)), .second, .unset, .unset, .unset, .unset, .unset, .unset, .unset, .unset, .unset, .unset, .unset, .unset, .unset, .unset, .unset, .unset] []) (fun _ kx_ => XS.lstore X0.here hx rfl (hb hby at_47) rfl (l' := #[.val (.long y1), .second, .val (.long y2), .second, .val (.long y3), .second, .val (.long y4), .second, .val (.int xs), .val (.long y1), .second, .val (.long y2), .second, .val (.long (-9223372036854775808 : Int64)), .second, .unset, .unset, .unset, .unset, .unset, .unset, .unset, .unset, .unset, .unset, .unset, .unset, .unset, .unset, .unset, .unset]) rfl kx_) ?_
        refine W.s1 (mkF m 51 #[.val (.long y1), .second, .val (.long y2), .second, .val (.long y3), .second, .val (.long y4), .second, .val (.int xs), .val (.long y1), .second, .val (.long y2), .second, .val (.long (-9223372036854775808 : Int64)), .second, .unset, .unset, .unset, .unset, .unset, .unset, .unset, .unset, .unset, .unset, .unset, .unset, .unset, .unset, .unset, .unset] [(.int xs)]) (fun _ kx_ => XS.iload X0.here hx rfl (hb hby at_49) rfl kx_) ?_
        refine W.s1 (mkF m 53 #[.val (.long y1), .second, .val (.long y2), .second, .val (.long y3), .second, .val (.long y4), .second, .val (.int xs), .val (.long y1), .second, .val (.long y2), .second, .val (.long (-9223372036854775808 : Int64)), .second, .unset, .unset, .unset, .unset, .unset, .unset, .unset, .unset, .unset, .unset, .unset, .unset, .unset, .unset, .unset, .unset] [(.int (8 : Int32)), (.int xs)]) (fun _ kx_ => XS.bipush X0.here hx rfl (hb hby at_51) kx_) ?_
        refine W.s1 (mkF m 54 #[.val (.long y1), .second, .val (.long y2), .second, .val (.long y3), .second, .val (.long y4), .second, .val (.int xs), .val (.long y1), .second, .val (.long y2), .second, .val (.long (-9223372036854775808 : Int64)), .second, .unset, .unset, .unset, .unset, .unset, .unset, .unset, .unset, .unset, .unset, .unset, .unset, .unset, .unset, .unset, .unset] [(.int (xs &&& (8 : Int32)))]) (fun _ kx_ => XS.iand X0.here hx rfl (hb hby at_53) rfl kx_) ?_
        refine W.ifc X0 hx (hb hby at_54) (pc' := 63) (pc'' := 57) (by decide) (by decide) rfl (fun (c54 : (xs &&& (8 : Int32)) = (0 : Int32)) => ?_) (fun (c54 : ¬ (xs &&& (8 : Int32)) = (0 : Int32)) => ?_)
        · refine W.s1 (mkF m 65 #[.val (.long y1), .second, .val (.long y2), .second, .val (.long y3), .second, .val (.long y4), .second, .val (.int xs), .val (.long y1), .second, .val (.long y2), .second, .val (.long (-9223372036854775808 : Int64)), .second, .unset, .unset, .unset, .unset, .unset, .unset, .unset, .unset, .unset, .unset, .unset, .unset, .unset, .unset, .unset, .unset] [(.long y4)]) (fun _ kx_ => XS.lload X0.here hx rfl (hb hby at_63) rfl kx_) ?_
          refine W.s1 (mkF m 67 #[.val (.long y1), .second, .val (.long y2), .second, .val (.long y3), .second, .val (.long y4), .second, .val (.int xs), .val (.long y1), .second, .val (.long y2), .second, .val (.long (-9223372036854775808 : Int64)), .second, .val (.long y4), .second, .unset, .unset, .unset, .unset, .unset, .unset, .unset, .unset, .unset, .unset, .unset, .unset, .unset, .unset] []) (fun _ kx_ => XS.lstore X0.here hx rfl (hb hby at_65) rfl (l' := #[.val (.long y1), .second, .val (.long y2), .second, .val (.long y3), .second, .val (.long y4), .second, .val (.int xs), .val (.long y1), .second, .val (.long y2), .second, .val (.long (-9223372036854775808 : Int64)), .second, .val (.long y4), .second, .unset, .unset, .unset, .unset, .unset, .unset, .unset, .unset, .unset, .unset, .unset, .unset, .unset, .unset]) rfl kx_) ?_
          refine W.s1 (mkF m 69 #[.val (.long y1), .second, .val (.long y2), .second, .val (.long y3), .second, .val (.long y4), .second, .val (.int xs), .val (.long y1), .second, .val (.long y2), .second, .val (.long (-9223372036854775808 : Int64)), .second, .val (.long y4), .second, .unset, .unset, .unset, .unset, .unset, .unset, .unset, .unset, .unset, .unset, .unset, .unset, .unset, .unset] [(.int xs)]) (fun _ kx_ => XS.iload X0.here hx rfl (hb hby at_67) rfl kx_) ?_
          refine W.s1 (mkF m 71 #[.val (.long y1), .second, .val (.long y2), .second, .val (.long y3), .second, .val (.long y4), .second, .val (.int xs), .val (.long y1), .second, .val (.long y2), .second, .val (.long (-9223372036854775808 : Int64)), .second, .val (.long y4), .second, .unset, .unset, .unset, .unset, .unset, .unset, .unset, .unset, .unset, .unset, .unset, .unset, .unset, .unset] [(.int (32 : Int32)), (.int xs)]) (fun _ kx_ => XS.bipush X0.here hx rfl (hb hby at_69) kx_) ?_
          refine W.s1 (mkF m 72 #[.val (.long y1), .second, .val (.long y2), .second, .val (.long y3), .second, .val (.long y4), .second, .val (.int xs), .val (.long y1), .second, .val (.long y2), .second, .val (.long (-9223372036854775808 : Int64)), .second, .val (.long y4), .second, .unset, .unset, .unset, .unset, .unset, .unset, .unset, .unset, .unset, .unset, .unset, .unset, .unset, .unset] [(.int (xs &&& (32 : Int32)))]) (fun _ kx_ => XS.iand X0.here hx rfl (hb hby at_71) rfl kx_) ?_
          refine W.ifc X0 hx (hb hby at_72) (pc' := 83) (pc'' := 75) (by decide) (by decide) rfl (fun (c72 : (xs &&& (32 : Int32)) = (0 : Int32)) => ?_) (fun (c72 : ¬ (xs &&& (32 : Int32)) = (0 : Int32)) => ?_)
          · refine W.s1 (mkF m 85 #[.val (.long y1), .second, .val (.long y2), .second, .val (.long y3), .second, .val (.long y4), .second, .val (.int xs), .val (.long y1), .second, .val (.long y2), .second, .val (.long (-9223372036854775808 : Int64)), .second, .val (.long y4), .second, .unset, .unset, .unset, .unset, .unset, .unset, .unset, .unset, .unset, .unset, .unset, .unset, .unset, .unset] [(.int xs)]) (fun _ kx_ => XS.iload X0.here hx rfl (hb hby at_83) rfl kx_) ?_
            refine W.s1 (mkF m 87 #[.val (.long y1), .second, .val (.long y2), .second, .val (.long y3), .second, .val (.long y4), .second, .val (.int xs), .val (.long y1), .second, .val (.long y2), .second, .val (.long (-9223372036854775808 : Int64)), .second, .val (.long y4), .second, .unset, .unset, .unset, .unset, .unset, .unset, .unset, .unset, .unset, .unset, .unset, .unset, .unset, .unset] [(.int (64 : Int32)), (.int xs)]) (fun _ kx_ => XS.bipush X0.here hx rfl (hb hby at_85) kx_) ?_
            refine W.s1 (mkF m 88 #[.val (.long y1), .second, .val (.long y2), .second, .val (.long y3), .second, .val (.long y4), .second, .val (.int xs), .val (.long y1), .second, .val (.long y2), .second, .val (.long (-9223372036854775808 : Int64)), .second, .val (.long y4), .second, .unset, .unset, .unset, .unset, .unset, .unset, .unset, .unset, .unset, .unset, .unset, .unset, .unset, .unset] [(.int (xs &&& (64 : Int32)))]) (fun _ kx_ => XS.iand X0.here hx rfl (hb hby at_87) rfl kx_) ?_
            refine W.ifc X0 hx (hb hby at_88) (pc' := 99) (pc'' := 91) (by decide) (by decide) rfl (fun (c88 : (xs &&& (64 : Int32)) = (0 : Int32)) => ?_) (fun (c88 : ¬ (xs &&& (64 : Int32)) = (0 : Int32)) => ?_)
            · refine W.gets X0 hx hZ hown (host := "") (Or.inl (hw _ (List.mem_of_getElem? (i := 2) rfl))) Via.refl e0 (Sta.ext O0.2 S_VALID) (hb hby at_99) (pc' := 102) rfl (fun T173 X173 e173 => ?_)
              refine W.s1 (mkF m 104 #[.val (.long y1), .second, .val (.long y2), .second, .val (.long y3), .second, .val (.long y4), .second, .val (.int xs), .val (.long y1), .second, .val (.long y2), .second, .val (.long (-9223372036854775808 : Int64)), .second, .val (.long y4), .second, .val (.ref aV), .unset, .unset, .unset, .unset, .unset, .unset, .unset, .unset, .unset, .unset, .unset, .unset, .unset] []) (fun _ kx_ => XS.astore X173.here hx rfl (hb hby at_102) rfl rfl (l' := #[.val (.long y1), .second, .val (.long y2), .second, .val (.long y3), .second, .val (.long y4), .second, .val (.int xs), .val (.long y1), .second, .val (.long y2), .second, .val (.long (-9223372036854775808 : Int64)), .second, .val (.long y4), .second, .val (.ref aV), .unset, .unset, .unset, .unset, .unset, .unset, .unset, .unset, .unset, .unset, .unset, .unset, .unset]) rfl kx_) ?_
              exact J104 _ _ _ _ _ _ X173 e173 E_VALID
            · refine W.gets X0 hx hZ hown (host := "") (Or.inl (hw _ (List.mem_of_getElem? (i := 89) rfl))) Via.refl e0 (Sta.ext O0.2 S_UNDECIDED) (hb hby at_91) (pc' := 94) rfl (fun T174 X174 e174 => ?_)
              refine W.s1 (mkF m 96 #[.val (.long y1), .second, .val (.long y2), .second, .val (.long y3), .second, .val (.long y4), .second, .val (.int xs), .val (.long y1), .second, .val (.long y2), .second, .val (.long (-9223372036854775808 : Int64)), .second, .val (.long y4), .second, .val (.ref aU), .unset, .unset, .unset, .unset, .unset, .unset, .unset, .unset, .unset, .unset, .unset, .unset, .unset] []) (fun _ kx_ => XS.astore X174.here hx rfl (hb hby at_94) rfl rfl (l' := #[.val (.long y1), .second, .val (.long y2), .second, .val (.long y3), .second, .val (.long y4), .second, .val (.int xs), .val (.long y1), .second, .val (.long y2), .second, .val (.long (-9223372036854775808 : Int64)), .second, .val (.long y4), .second, .val (.ref aU), .unset, .unset, .unset, .unset, .unset, .unset, .unset, .unset, .unset, .unset, .unset, .unset, .unset]) rfl kx_) ?_
              refine W.s1 (mkF m 104 #[.val (.long y1), .second, .val (.long y2), .second, .val (.long y3), .second, .val (.long y4), .second, .val (.int xs), .val (.long y1), .second, .val (.long y2), .second, .val (.long (-9223372036854775808 : Int64)), .second, .val (.long y4), .second, .val (.ref aU), .unset, .unset, .unset, .unset, .unset, .unset, .unset, .unset, .unset, .unset, .unset, .unset, .unset] []) (fun _ kx_ => XS.goto X174.here hx rfl (pc0 := 96) (pc' := 104) rfl (hb hby at_96) (by decide) (by decide) kx_) ?_
              exact J104 _ _ _ _ _ _ X174 e174 E_UNDECIDED
          · refine W.gets X0 hx hZ hown (host := "") (Or.inl (hw _ (List.mem_of_getElem? (i := 87) rfl))) Via.refl e0 (Sta.ext O0.2 S_INVALID) (hb hby at_75) (pc' := 78) rfl (fun T175 X175 e175 => ?_)
            refine W.s1 (mkF m 80 #[.val (.long y1), .second, .val (.long y2), .second, .val (.long y3), .second, .val (.long y4), .second, .val (.int xs), .val (.long y1), .second, .val (.long y2), .second, .val (.long (-9223372036854775808 : Int64)), .second, .val (.long y4), .second, .val (.ref aI), .unset, .unset, .unset, .unset, .unset, .unset, .unset, .unset, .unset, .unset, .unset, .unset, .unset] []) (fun _ kx_ => XS.astore X175.here hx rfl (hb hby at_78) rfl rfl (l' := #[.val (.long y1), .second, .val (.long y2), .second, .val (.long y3), .second, .val (.long y4), .second, .val (.int xs), .val (.long y1), .second, .val (.long y2), .second, .val (.long (-9223372036854775808 : Int64)), .second, .val (.long y4), .second, .val (.ref aI), .unset, .unset, .unset, .unset, .unset, .unset, .unset, .unset, .unset, .unset, .unset, .unset, .unset]) rfl kx_) ?_
            refine W.s1 (mkF m 104 #[.val (.long y1), .second, .val (.long y2), .second, .val (.long y3), .second, .val (.long y4), .second, .val (.int xs), .val (.long y1), .second, .val (.long y2), .second, .val (.long (-9223372036854775808 : Int64)), .second, .val (.long y4), .second, .val (.ref aI), .unset, .unset, .unset, .unset, .unset, .unset, .unset, .unset, .unset, .unset, .unset, .unset, .unset] []) (fun _ kx_ => XS.goto X175.here hx rfl (pc0 := 80) (pc' := 104) rfl (hb hby at_80) (by decide) (by decide) kx_) ?_
            exact J104 _ _ _ _ _ _ X175 e175 E_INVALID
        · refine W.s1 (mkF m 60 #[.val (.long y1), .second, .val (.long y2), .second, .val (.long y3), .second, .val (.long y4), .second, .val (.int xs), .val (.long y1), .second, .val (.long y2), .second, .val (.long (-9223372036854775808 : Int64)), .second, .unset, .unset, .unset, .unset, .unset, .unset, .unset, .unset, .unset, .unset, .unset, .unset, .unset, .unset, .unset, .unset] [(.long (9223372036854775807 : Int64))]) (fun _ kx_ => X0.ldc2Long hx hown (mvT hZ (hw _ (List.mem_of_getElem? (i := 1) rfl))) (g := (mkF m 57 #[.val (.long y1), .second, .val (.long y2), .second, .val (.long y3), .second, .val (.long y4), .second, .val (.int xs), .val (.long y1), .second, .val (.long y2), .second, .val (.long (-9223372036854775808 : Int64)), .second, .unset, .unset, .unset, .unset, .unset, .unset, .unset, .unset, .unset, .unset, .unset, .unset, .unset, .unset, .unset, .unset] [])) rfl (hb hby at_57) _ kx_) ?_
          refine W.s1 (mkF m 65 #[.val (.long y1), .second, .val (.long y2), .second, .val (.long y3), .second, .val (.long y4), .second, .val (.int xs), .val (.long y1), .second, .val (.long y2), .second, .val (.long (-9223372036854775808 : Int64)), .second, .unset, .unset, .unset, .unset, .unset, .unset, .unset, .unset, .unset, .unset, .unset, .unset, .unset, .unset, .unset, .unset] [(.long (9223372036854775807 : Int64))]) (fun _ kx_ => XS.goto X0.here hx rfl (pc0 := 60) (pc' := 65) rfl (hb hby at_60) (by decide) (by decide) kx_) ?_
          refine W.s1 (mkF m 67 #[.val (.long y1), .second, .val (.long y2), .second, .val (.long y3), .second, .val (.long y4), .second, .val (.int xs), .val (.long y1), .second, .val (.long y2), .second, .val (.long (-9223372036854775808 : Int64)), .second, .val (.long (9223372036854775807 : Int64)), .second, .unset, .unset, .unset, .unset, .unset, .unset, .unset, .unset, .unset, .unset, .unset, .unset, .unset, .unset] []) (fun _ kx_ => XS.lstore X0.here hx rfl (hb hby at_65) rfl (l' := #[.val (.long y1), .second, .val (.long y2), .second, .val (.long y3), .second, .val (.long y4), .second, .val (.int xs), .val (.long y1), .second, .val (.long y2), .second, .val (.long (-9223372036854775808 : Int64)), .second, .val (.long (9223372036854775807 : Int64)), .second, .unset, .unset, .unset, .unset, .unset, .unset, .unset, .unset, .unset, .unset, .unset, .unset, .unset, .unset]) rfl kx_) ?_
          refine W.s1 (mkF m 69 #[.val (.long y1), .second, .val (.long y2), .second, .val (.long y3), .second, .val (.long y4), .second, .val (.int xs), .val (.long y1), .second, .val (.long y2), .second, .val (.long (-9223372036854775808 : Int64)), .second, .val (.long (9223372036854775807 : Int64)), .second, .unset, .unset, .unset, .unset, .unset, .unset, .unset, .unset, .unset, .unset, .unset, .unset, .unset, .unset] [(.int xs)]) (fun _ kx_ => XS.iload X0.here hx rfl (hb hby at_67) rfl kx_) ?_
          refine W.s1 (mkF m 71 #[.val (.long y1), .second, .val (.long y2), .second, .val (.long y3), .second, .val (.long y4), .second, .val (.int xs), .val (.long y1), .second, .val (.long y2), .second, .val (.long (-9223372036854775808 : Int64)), .second, .val (.long (9223372036854775807 : Int64)), .second, .unset, .unset, .unset, .unset, .unset, .unset, .unset, .unset, .unset, .unset, .unset, .unset, .unset, .unset] [(.int (32 : Int32)), (.int xs)]) (fun _ kx_ => XS.bipush X0.here hx rfl (hb hby at_69) kx_) ?_
          refine W.s1 (mkF m 72 #[.val (.long y1), .second, .val (.long y2), .second, .val (.long y3), .second, .val (.long y4), .second, .val (.int xs), .val (.long y1), .second, .val (.long y2), .second, .val (.long (-9223372036854775808 : Int64)), .second, .val (.long (9223372036854775807 : Int64)), .second, .unset, .unset, .unset, .unset, .unset, .unset, .unset, .unset, .unset, .unset, .unset, .unset, .unset, .unset] [(.int (xs &&& (32 : Int32)))]) (fun _ kx_ => XS.iand X0.here hx rfl (hb hby at_71) rfl kx_) ?_
          refine W.ifc X0 hx (hb hby at_72) (pc' := 83) (pc'' := 75) (by decide) (by decide) rfl (fun (c72 : (xs &&& (32 : Int32)) = (0 : Int32)) => ?_) (fun (c72 : ¬ (xs &&& (32 : Int32)) = (0 : Int32)) => ?_)
          · refine W.s1 (mkF m 85 #[.val (.long y1), .second, .val (.long y2), .second, .val (.long y3), .second, .val (.long y4), .second, .val (.int xs), .val (.long y1), .second, .val (.long y2), .second, .val (.long (-9223372036854775808 : Int64)), .second, .val (.long (9223372036854775807 : Int64)), .second, .unset, .unset, .unset, .unset, .unset, .unset, .unset, .unset, .unset, .unset, .unset, .unset, .unset, .unset] [(.int xs)]) (fun _ kx_ => XS.iload X0.here hx rfl (hb hby at_83) rfl kx_) ?_
            refine W.s1 (mkF m 87 #[.val (.long y1), .second, .val (.long y2), .second, .val (.long y3), .second, .val (.long y4), .second, .val (.int xs), .val (.long y1), .second, .val (.long y2), .second, .val (.long (-9223372036854775808 : Int64)), .second, .val (.long (9223372036854775807 : Int64)), .second, .unset, .unset, .unset, .unset, .unset, .unset, .unset, .unset, .unset, .unset, .unset, .unset, .unset, .unset] [(.int (64 : Int32)), (.int xs)]) (fun _ kx_ => XS.bipush X0.here hx rfl (hb hby at_85) kx_) ?_
            refine W.s1 (mkF m 88 #[.val (.long y1), .second, .val (.long y2), .second, .val (.long y3), .second, .val (.long y4), .second, .val (.int xs), .val (.long y1), .second, .val (.long y2), .second, .val (.long (-9223372036854775808 : Int64)), .second, .val (.long (9223372036854775807 : Int64)), .second, .unset, .unset, .unset, .unset, .unset, .unset, .unset, .unset, .unset, .unset, .unset, .unset, .unset, .unset] [(.int (xs &&& (64 : Int32)))]) (fun _ kx_ => XS.iand X0.here hx rfl (hb hby at_87) rfl kx_) ?_
            refine W.ifc X0 hx (hb hby at_88) (pc' := 99) (pc'' := 91) (by decide) (by decide) rfl (fun (c88 : (xs &&& (64 : Int32)) = (0 : Int32)) => ?_) (fun (c88 : ¬ (xs &&& (64 : Int32)) = (0 : Int32)) => ?_)
            · refine W.gets X0 hx hZ hown (host := "") (Or.inl (hw _ (List.mem_of_getElem? (i := 2) rfl))) Via.refl e0 (Sta.ext O0.2 S_VALID) (hb hby at_99) (pc' := 102) rfl (fun T176 X176 e176 => ?_)
              refine W.s1 (mkF m 104 #[.val (.long y1), .second, .val (.long y2), .second, .val (.long y3), .second, .val (.long y4), .second, .val (.int xs), .val (.long y1), .second, .val (.long y2), .second, .val (.long (-9223372036854775808 : Int64)), .second, .val (.long (9223372036854775807 : Int64)), .second, .val (.ref aV), .unset, .unset, .unset, .unset, .unset, .unset, .unset, .unset, .unset, .unset, .unset, .unset, .unset] []) (fun _ kx_ => XS.astore X176.here hx rfl (hb hby at_102) rfl rfl (l' := #[.val (.long y1), .second, .val (.long y2), .second, .val (.long y3), .second, .val (.long y4), .second, .val (.int xs), .val (.long y1), .second, .val (.long y2), .second, .val (.long (-9223372036854775808 : Int64)), .second, .val (.long (9223372036854775807 : Int64)), .second, .val (.ref aV), .unset, .unset, .unset, .unset, .unset, .unset, .unset, .unset, .unset, .unset, .unset, .unset, .unset]) rfl kx_) ?_
              exact J104 _ _ _ _ _ _ X176 e176 E_VALID
            · refine W.gets X0 hx hZ hown (host := "") (Or.inl (hw _ (List.mem_of_getElem? (i := 89) rfl))) Via.refl e0 (Sta.ext O0.2 S_UNDECIDED) (hb hby at_91) (pc' := 94) rfl (fun T177 X177 e177 => ?_)
              refine W.s1 (mkF m 96 #[.val (.long y1), .second, .val (.long y2), .second, .val (.long y3), .second, .val (.long y4), .second, .val (.int xs), .val (.long y1), .second, .val (.long y2), .second, .val (.long (-9223372036854775808 : Int64)), .second, .val (.long (9223372036854775807 : Int64)), .second, .val (.ref aU), .unset, .unset, .unset, .unset, .unset, .unset, .unset, .unset, .unset, .unset, .unset, .unset, .unset] []) (fun _ kx_ => XS.astore X177.here hx rfl (hb hby at_94) rfl rfl (l' := #[.val (.long y1), .second, .val (.long y2), .second, .val (.long y3), .second, .val (.long y4), .second, .val (.int xs), .val (.long y1), .second, .val (.long y2), .second, .val (.long (-9223372036854775808 : Int64)), .second, .val (.long (9223372036854775807 : Int64)), .second, .val (.ref aU), .unset, .unset, .unset, .unset, .unset, .unset, .unset, .unset, .unset, .unset, .unset, .unset, .unset]) rfl kx_) ?_
              refine W.s1 (mkF m 104 #[.val (.long y1), .second, .val (.long y2), .second, .val (.long y3), .second, .val (.long y4), .second, .val (.int xs), .val (.long y1), .second, .val (.long y2), .second, .val (.long (-9223372036854775808 : Int64)), .second, .val (.long (9223372036854775807 : Int64)), .second, .val (.ref aU), .unset, .unset, .unset, .unset, .unset, .unset, .unset, .unset, .unset, .unset, .unset, .unset, .unset] []) (fun _ kx_ => XS.goto X177.here hx rfl (pc0 := 96) (pc' := 104) rfl (hb hby at_96) (by decide) (by decide) kx_) ?_
              exact J104 _ _ _ _ _ _ X177 e177 E_UNDECIDED
          · refine W.gets X0 hx hZ hown (host := "") (Or.inl (hw _ (List.mem_of_getElem? (i := 87) rfl))) Via.refl e0 (Sta.ext O0.2 S_INVALID) (hb hby at_75) (pc' := 78) rfl (fun T178 X178 e178 => ?_)
            refine W.s1 (mkF m 80 #[.val (.long y1), .second, .val (.long y2), .second, .val (.long y3), .second, .val (.long y4), .second, .val (.int xs), .val (.long y1), .second, .val (.long y2), .second, .val (.long (-9223372036854775808 : Int64)), .second, .val (.long (9223372036854775807 : Int64)), .second, .val (.ref aI), .unset, .unset, .unset, .unset, .unset, .unset, .unset, .unset, .unset, .unset, .unset, .unset, .unset] []) (fun _ kx_ => XS.astore X178.here hx rfl (hb hby at_78) rfl rfl (l' := #[.val (.long y1), .second, .val (.long y2), .second, .val (.long y3), .second, .val (.long y4), .second, .val (.int xs), .val (.long y1), .second, .val (.long y2), .second, .val (.long (-9223372036854775808 : Int64)), .second, .val (.long (9223372036854775807 : Int64)), .second, .val (.ref aI), .unset, .unset, .unset, .unset, .unset, .unset, .unset, .unset, .unset, .unset, .unset, .unset, .unset]) rfl kx_) ?_
            refine W.s1 (mkF m 104 #[.val (.long y1), .second, .val (.long y2), .second, .val (.long y3), .second, .val (.long y4), .second, .val (.int xs), .val (.long y1), .second, .val (.long y2), .second, .val (.long (-9223372036854775808 : Int64)), .second, .val (.long (9223372036854775807 : Int64)), .second, .val (.ref aI), .unset, .unset, .unset, .unset, .unset, .unset, .unset, .unset, .unset, .unset, .unset, .unset, .unset] []) (fun _ kx_ => XS.goto X178.here hx rfl (pc0 := 80) (pc' := 104) rfl (hb hby at_80) (by decide) (by decide) kx_) ?_
            exact J104 _ _ _ _ _ _ X178 e178 E_INVALID
    · refine W.s1 (mkF m 26 #[.val (.long y1), .second, .val (.long y2), .second, .val (.long y3), .second, .val (.long y4), .second, .val (.int xs), .val (.long y1), .second, .unset, .unset, .unset, .unset, .unset, .unset, .unset, .unset, .unset, .unset, .unset, .unset, .unset, .unset, .unset, .unset, .unset, .unset, .unset, .unset] [(.long (9223372036854775807 : Int64))]) (fun _ kx_ => X0.ldc2Long hx hown (mvT hZ (hw _ (List.mem_of_getElem? (i := 1) rfl))) (g := (mkF m 23 #[.val (.long y1), .second, .val (.long y2), .second, .val (.long y3), .second, .val (.long y4), .second, .val (.int xs), .val (.long y1), .second, .unset, .unset, .unset, .unset, .unset, .unset, .unset, .unset, .unset, .unset, .unset, .unset, .unset, .unset, .unset, .unset, .unset, .unset, .unset, .unset] [])) rfl (hb hby at_23) _ kx_) ?_
      refine W.s1 (mkF m 30 #[.val (.long y1), .second, .val (.long y2), .second, .val (.long y3), .second, .val (.long y4), .second, .val (.int xs), .val (.long y1), .second, .unset, .unset, .unset, .unset, .unset, .unset, .unset, .unset, .unset, .unset, .unset, .unset, .unset, .unset, .unset, .unset, .unset, .unset, .unset, .unset] [(.long (9223372036854775807 : Int64))]) (fun _ kx_ => XS.goto X0.here hx rfl (pc0 := 26) (pc' := 30) rfl (hb hby at_26) (by decide) (by decide) kx_) ?_
      refine W.s1 (mkF m 32 #[.val (.long y1), .second, .val (.long y2), .second, .val (.long y3), .second, .val (.long y4), .second, .val (.int xs), .val (.long y1), .second, .val (.long (9223372036854775807 : Int64)), .second, .unset, .unset, .unset, .unset, .unset, .unset, .unset, .unset, .unset, .unset, .unset, .unset, .unset, .unset, .unset, .unset, .unset, .unset] []) (fun _ kx_ => XS.lstore X0.here hx rfl (hb hby at_30) rfl (l' := #[.val (.long y1), .second, .val (.long y2), .second, .val (.long y3), .second, .val (.long y4), .second, .val (.int xs), .val (.long y1), .second, .val (.long (9223372036854775807 : Int64)), .second, .unset, .unset, .unset, .unset, .unset, .unset, .unset, .unset, .unset, .unset, .unset, .unset, .unset, .unset, .unset, .unset, .unset, .unset]) rfl kx_) ?_
      refine W.s1 (mkF m 34 #[.val (.long y1), .second, .val (.long y2), .second, .val (.long y3), .second, .val (.long y4), .second, .val (.int xs), .val (.long y1), .second, .val (.long (9223372036854775807 : Int64)), .second, .unset, .unset, .unset, .unset, .unset, .unset, .unset, .unset, .unset, .unset, .unset, .unset, .unset, .unset, .unset, .unset, .unset, .unset] [(.int xs)]) (fun _ kx_ => XS.iload X0.here hx rfl (hb hby at_32) rfl kx_) ?_
      refine W.s1 (mkF m 35 #[.val (.long y1), .second, .val (.long y2), .second, .val (.long y3), .second, .val (.long y4), .second, .val (.int xs), .val (.long y1), .second, .val (.long (9223372036854775807 : Int64)), .second, .unset, .unset, .unset, .unset, .unset, .unset, .unset, .unset, .unset, .unset, .unset, .unset, .unset, .unset, .unset, .unset, .unset, .unset] [(.int (4 : Int32)), (.int xs)]) (fun _ kx_ => XS.iconst X0.here hx rfl (hb hby at_34) kx_) ?_
      refine W.s1 (mkF m 36 #[.val (.long y1), .second, .val (.long y2), .second, .val (.long y3), .second, .val (.long y4), .second, .val (.int xs), .val (.long y1), .second, .val (.long (9223372036854775807 : Int64)), .second, .unset, .unset, .unset, .unset, .unset, .unset, .unset, .unset, .unset, .unset, .unset, .unset, .unset, .unset, .unset, .unset, .unset, .unset] [(.int (xs &&& (4 : Int32)))]) (fun _ kx_ => XS.iand X0.here hx rfl (hb hby at_35) rfl kx_) ?_
      refine W.ifc X0 hx (hb hby at_36) (pc' := 45) (pc'' := 39) (by decide) (by decide) rfl (fun (c36 : (xs &&& (4 : Int32)) = (0 : Int32)) => ?_) (fun (c36 : ¬ (xs &&& (4 : Int32)) = (0 : Int32)) => ?_)
      · refine W.s1 (mkF m 47 #[.val (.long y1), .second, .val (.long y2), .second, .val (.long y3), .second, .val (.long y4), .second, .val (.int xs), .val (.long y1), .second, .val (.long (9223372036854775807 : Int64)), .second, .unset, .unset, .unset, .unset, .unset, .unset, .unset, .unset, .unset, .unset, .unset, .unset, .unset, .unset, .unset, .unset, .unset, .unset] [(.long y3)]) (fun _ kx_ => XS.lload X0.here hx rfl (hb hby at_45) rfl kx_) ?_
        refine W.s1 (mkF m 49 #[.val (.long y1), .second, .val (.long y2), .second, .val (.long y3), .second, .val (.long y4), .second, .val (.int xs), .val (.long y1), .second, .val (.long (9223372036854775807 : Int64)), .second, .val (.long y3), .second, .unset, .unset, .unset, .unset, .unset, .unset, .unset, .unset, .unset, .unset, .unset, .unset, .unset, .unset, .unset, .unset] []) (fun _ kx_ => XS.lstore X0.here hx rfl (hb hby at_47) rfl (l' := #[.val (.long y1), .second, .val (.long y2), .second, .val (.long y3), .second, .val (.long y4), .second, .val (.int xs), .val (.long y1), .second, .val (.long (9223372036854775807 : Int64)), .second, .val (.long y3), .second, .unset, .unset, .unset, .unset, .unset, .unset, .unset, .unset, .unset, .unset, .unset, .unset, .unset, .unset, .unset, .unset]) rfl kx_) ?_
        refine W.s1 (mkF m 51 #[.val (.long y1), .second, .val (.long y2), .second, .val (.long y3), .second, .val (.long y4), .second, .val (.int xs), .val (.long y1), .second, .val (.long (9223372036854775807 : Int64)), .second, .val (.long y3), .second, .unset, .unset, .unset, .unset, .unset, .unset, .unset, .unset, .unset, .unset, .unset, .unset, .unset, .unset, .unset, .unset] [(.int xs)]) (fun _ kx_ => XS.iload X0.here hx rfl (hb hby at_49) rfl kx_) ?_
        refine W.s1 (mkF m 53 #[.val (.long y1), .second, .val (.long y2), .second, .val (.long y3), .second, .val (.long y4), .second, .val (.int xs), .val (.long y1), .second, .val (.long (9223372036854775807 : Int64)), .second, .val (.long y3), .second, .unset, .unset, .unset, .unset, .unset, .unset, .unset, .unset, .unset, .unset, .unset, .unset, .unset, .unset, .unset, .unset] [(.int (8 : Int32)), (.int xs)]) (fun _ kx_ => XS.bipush X0.here hx rfl (hb hby at_51) kx_) ?_
        refine W.s1 (mkF m 54 #[.val (.long y1), .second, .val (.long y2), .second, .val (.long y3), .second, .val (.long y4), .second, .val (.int xs), .val (.long y1), .second, .val (.long (9223372036854775807 : Int64)), .second, .val (.long y3), .second, .unset, .unset, .unset, .unset, .unset, .unset, .unset, .unset, .unset, .unset, .unset, .unset, .unset, .unset, .unset, .unset] [(.int (xs &&& (8 : Int32)))]) (fun _ kx_ => XS.iand X0.here hx rfl (hb hby at_53) rfl kx_) ?_
        refine W.ifc X0 hx (hb hby at_54) (pc' := 63) (pc'' := 57) (by decide) (by decide) rfl (fun (c54 : (xs &&& (8 : Int32)) = (0 : Int32)) => ?_) (fun (c54 : ¬ (xs &&& (8 : Int32)) = (0 : Int32)) => ?_)
        · refine W.s1 (mkF m 65 #[.val (.long y1), .second, .val (.long y2), .second, .val (.long y3), .second, .val (.long y4), .second, .val (.int xs), .val (.long y1), .second, .val (.long (9223372036854775807 : Int64)), .second, .val (.long y3), .second, .unset, .unset, .unset, .unset, .unset, .unset, .unset, .unset, .unset, .unset, .unset, .unset, .unset, .unset, .unset, .unset] [(.long y4)]) (fun _ kx_ => XS.lload X0.here hx rfl (hb hby at_63) rfl kx_) ?_
          refine W.s1 (mkF m 67 #[.val (.long y1), .second, .val (.long y2), .second, .val (.long y3), .second, .val (.long y4), .second, .val (.int xs), .val (.long y1), .second, .val (.long (9223372036854775807 : Int64)), .second, .val (.long y3), .second, .val (.long y4), .second, .unset, .unset, .unset, .unset, .unset, .unset, .unset, .unset, .unset, .unset, .unset, .unset, .unset, .unset] []) (fun _ kx_ => XS.lstore X0.here hx rfl (hb hby at_65) rfl (l' := #[.val (.long y1), .second, .val (.long y2), .second, .val (.long y3), .second, .val (.long y4), .second, .val (.int xs), .val (.long y1), .second, .val (.long (9223372036854775807 : Int64)), .second, .val (.long y3), .second, .val (.long y4), .second, .unset, .unset, .unset, .unset, .unset, .unset, .unset, .unset, .unset, .unset, .unset, .unset, .unset, .unset]) rfl kx_) ?_
          refine W.s1 (mkF m 69 #[.val (.long y1), .second, .val (.long y2), .second, .val (.long y3), .second, .val (.long y4), .second, .val (.int xs), .val (.long y1), .second, .val (.long (9223372036854775807 : Int64)), .second, .val (.long y3), .second, .val (.long y4), .second, .unset, .unset, .unset, .unset, .unset, .unset, .unset, .unset, .unset, .unset, .unset, .unset, .unset, .unset] [(.int xs)]) (fun _ kx_ => XS.iload X0.here hx rfl (hb hby at_67) rfl kx_) ?_
          refine W.s1 (mkF m 71 #[.val (.long y1), .second, .val (.long y2), .second, .val (.long y3), .second, .val (.long y4), .second, .val (.int xs), .val (.long y1), .second, .val (.long (9223372036854775807 : Int64)), .second, .val (.long y3), .second, .val (.long y4), .second, .unset, .unset, .unset, .unset, .unset, .unset, .unset, .unset, .unset, .unset, .unset, .unset, .unset, .unset] [(.int (32 : Int32)), (.int xs)]) (fun _ kx_ => XS.bipush X0.here hx rfl (hb hby at_69) kx_) ?_
          refine W.s1 (mkF m 72 #[.val (.long y1), .second, .val (.long y2), .second, .val (.long y3), .second, .val (.long y4), .second, .val (.int xs), .val (.long y1), .second, .val (.long (9223372036854775807 : Int64)), .second, .val (.long y3), .second, .val (.long y4), .second, .unset, .unset, .unset, .unset, .unset, .unset, .unset, .unset, .unset, .unset, .unset, .unset, .unset, .unset] [(.int (xs &&& (32 : Int32)))]) (fun _ kx_ => XS.iand X0.here hx rfl (hb hby at_71) rfl kx_) ?_
          refine W.ifc X0 hx (hb hby at_72) (pc' := 83) (pc'' := 75) (by decide) (by decide) rfl (fun (c72 : (xs &&& (32 : Int32)) = (0 : Int32)) => ?_) (fun (c72 : ¬ (xs &&& (32 : Int32)) = (0 : Int32)) => ?_)
          · refine W.s1 (mkF m 85 #[.val (.long y1), .second, .val (.long y2), .second, .val (.long y3), .second, .val (.long y4), .second, .val (.int xs), .val (.long y1), .second, .val (.long (9223372036854775807 : Int64)), .second, .val (.long y3), .second, .val (.long y4), .second, .unset, .unset, .unset, .unset, .unset, .unset, .unset, .unset, .unset, .unset, .unset, .unset, .unset, .unset] [(.int xs)]) (fun _ kx_ => XS.iload X0.here hx rfl (hb hby at_83) rfl kx_) ?_
            refine W.s1 (mkF m 87 #[.val (.long y1), .second, .val (.long y2), .second, .val (.long y3), .second, .val (.long y4), .second, .val (.int xs), .val (.long y1), .second, .val (.long (9223372036854775807 : Int64)), .second, .val (.long y3), .second, .val (.long y4), .second, .unset, .unset, .unset, .unset, .unset, .unset, .unset, .unset, .unset, .unset, .unset, .unset, .unset, .unset] [(.int (64 : Int32)), (.int xs)]) (fun _ kx_ => XS.bipush X0.here hx rfl (hb hby at_85) kx_) ?_
            refine W.s1 (mkF m 88 #[.val (.long y1), .second, .val (.long y2), .second, .val (.long y3), .second, .val (.long y4), .second, .val (.int xs), .val (.long y1), .second, .val (.long (9223372036854775807 : Int64)), .second, .val (.long y3), .second, .val (.long y4), .second, .unset, .unset, .unset, .unset, .unset, .unset, .unset, .unset, .unset, .unset, .unset, .unset, .unset, .unset] [(.int (xs &&& (64 : Int32)))]) (fun _ kx_ => XS.iand X0.here hx rfl (hb hby at_87) rfl kx_) ?_
            refine W.ifc X0 hx (hb hby at_88) (pc' := 99) (pc'' := 91) (by decide) (by decide) rfl (fun (c88 : (xs &&& (64 : Int32)) = (0 : Int32)) => ?_) (fun (c88 : ¬ (xs &&& (64 : Int32)) = (0 : Int32)) => ?_)
            · refine W.gets X0 hx hZ hown (host := "") (Or.inl (hw _ (List.mem_of_getElem? (i := 2) rfl))) Via.refl e0 (Sta.ext O0.2 S_VALID) (hb hby at_99) (pc' := 102) rfl (fun T179 X179 e179 => ?_)
              refine W.s1 (mkF m 104 #[.val (.long y1), .second, .val (.long y2), .second, .val (.long y3), .second, .val (.long y4), .second, .val (.int xs), .val (.long y1), .second, .val (.long (9223372036854775807 : Int64)), .second, .val (.long y3), .second, .val (.long y4), .second, .val (.ref aV), .unset, .unset, .unset, .unset, .unset, .unset, .unset, .unset, .unset, .unset, .unset, .unset, .unset] []) (fun _ kx_ => XS.astore X179.here hx rfl (hb hby at_102) rfl rfl (l' := #[.val (.long y1), .second, .val (.long y2), .second, .val (.long y3), .second, .val (.long y4), .second, .val (.int xs), .val (.long y1), .second, .val (.long (9223372036854775807 : Int64)), .second, .val (.long y3), .second, .val (.long y4), .second, .val (.ref aV), .unset, .unset, .unset, .unset, .unset, .unset, .unset, .unset, .unset, .unset, .unset, .unset, .unset]) rfl kx_) ?_
              exact J104 _ _ _ _ _ _ X179 e179 E_VALID
            · refine W.gets X0 hx hZ hown (host := "") (Or.inl (hw _ (List.mem_of_getElem? (i := 89) rfl))) Via.refl e0 (Sta.ext O0.2 S_UNDECIDED) (hb hby at_91) (pc' := 94) rfl (fun T180 X180 e180 => ?_)
              refine W.s1 (mkF m 96 #[.val (.long y1), .second, .val (.long y2), .second, .val (.long y3), .second, .val (.long y4), .second, .val (.int xs), .val (.long y1), .second, .val (.long (9223372036854775807 : Int64)), .second, .val (.long y3), .second, .val (.long y4), .second, .val (.ref aU), .unset, .unset, .unset, .unset, .unset, .unset, .unset, .unset, .unset, .unset, .unset, .unset, .unset] []) (fun _ kx_ => XS.astore X180.here hx rfl (hb hby at_94) rfl rfl (l' := #[.val (.long y1), .second, .val (.long y2), .second, .val (.long y3), .second, .val (.long y4), .second, .val (.int xs), .val (.long y1), .second, .val (.long (9223372036854775807 : Int64)), .second, .val (.long y3), .second, .val (.long y4), .second, .val (.ref aU), .unset, .unset, .unset, .unset, .unset, .unset, .unset, .unset, .unset, .unset, .unset, .unset, .unset]) rfl kx_) ?_
              refine W.s1 (mkF m 104 #[.val (.long y1), .second, .val (.long y2), .second, .val (.long y3), .second, .val (.long y4), .second, .val (.int xs), .val (.long y1), .second, .val (.long (9223372036854775807 : Int64)), .second, .val (.long y3), .second, .val (.long y4), .second, .val (.ref aU), .unset, .unset, .unset, .unset, .unset, .unset, .unset, .unset, .unset, .unset, .unset, .unset, .unset] []) (fun _ kx_ => XS.goto X180.here hx rfl (pc0 := 96) (pc' := 104) rfl (hb hby at_96) (by decide) (by decide) kx_) ?_
              exact J104 _ _ _ _ _ _ X180 e180 E_UNDECIDED
          · refine W.gets X0 hx hZ hown (host := "") (Or.inl (hw _ (List.mem_of_getElem? (i := 87) rfl))) Via.refl e0 (Sta.ext O0.2 S_INVALID) (hb hby at_75) (pc' := 78) rfl (fun T181 X181 e181 => ?_)
            refine W.s1 (mkF m 80 #[.val (.long y1), .second, .val (.long y2), .second, .val (.long y3), .second, .val (.long y4), .second, .val (.int xs), .val (.long y1), .second, .val (.long (9223372036854775807 : Int64)), .second, .val (.long y3), .second, .val (.long y4), .second, .val (.ref aI), .unset, .unset, .unset, .unset, .unset, .unset, .unset, .unset, .unset, .unset, .unset, .unset, .unset] []) (fun _ kx_ => XS.astore X181.here hx rfl (hb hby at_78) rfl rfl (l' := #[.val (.long y1), .second, .val (.long y2), .second, .val (.long y3), .second, .val (.long y4), .second, .val (.int xs), .val (.long y1), .second, .val (.long (9223372036854775807 : Int64)), .second, .val (.long y3), .second, .val (.long y4), .second, .val (.ref aI), .unset, .unset, .unset, .unset, .unset, .unset, .unset, .unset, .unset, .unset, .unset, .unset, .unset]) rfl kx_) ?_
            refine W.s1 (mkF m 104 #[.val (.long y1), .second, .val (.long y2), .second, .val (.long y3), .second, .val (.long y4), .second, .val (.int xs), .val (.long y1), .second, .val (.long (9223372036854775807 : Int64)), .second, .val (.long y3), .second, .val (.long y4), .second, .val (.ref aI), .unset, .unset, .unset, .unset, .unset, .unset, .unset, .unset, .unset, .unset, .unset, .unset, .unset] []) (fun _ kx_ => XS.goto X181.here hx rfl (pc0 := 80) (pc' := 104) rfl (hb hby at_80) (by decide) (by decide) kx_) ?_
            exact J104 _ _ _ _ _ _ X181 e181 E_INVALID
        · refine W.s1 (mkF m 60 #[.val (.long y1), .second, .val (.long y2), .second, .val (.long y3), .second, .val (.long y4), .second, .val (.int xs), .val (.long y1), .second, .val (.long (9223372036854775807 : Int64)), .second, .val (.long y3), .second, .unset, .unset, .unset, .unset, .unset, .unset, .unset, .unset, .unset, .unset, .unset, .unset, .unset, .unset, .unset, .unset] [(.long (9223372036854775807 : Int64))]) (fun _ kx_ => X0.ldc2Long hx hown (mvT hZ (hw _ (List.mem_of_getElem? (i := 1) rfl))) (g := (mkF m 57 #[.val (.long y1), .second, .val (.long y2), .second, .val (.long y3), .second, .val (.long y4), .second, .val (.int xs), .val (.long y1), .second, .val (.long (9223372036854775807 : Int64)), .second, .val (.long y3), .second, .unset, .unset, .unset, .unset, .unset, .unset, .unset, .unset, .unset, .unset, .unset, .unset, .unset, .unset, .unset, .unset] [])) rfl (hb hby at_57) _ kx_) ?_
          refine W.s1 (mkF m 65 #[.val (.long y1), .second, .val (.long y2), .second, .val (.long y3), .second, .val (.long y4), .second, .val (.int xs), .val (.long y1), .second, .val (.long (9223372036854775807 : Int64)), .second, .val (.long y3), .second, .unset, .unset, .unset, .unset, .unset, .unset, .unset, .unset, .unset, .unset, .unset, .unset, .unset, .unset, .unset, .unset] [(.long (9223372036854775807 : Int64))]) (fun _ kx_ => XS.goto X0.here hx rfl (pc0 := 60) (pc' := 65) rfl (hb hby at_60) (by decide) (by decide) kx_) ?_
          refine W.s1 (mkF m 67 #[.val (.long y1), .second, .val (.long y2), .second, .val (.long y3), .second, .val (.long y4), .second, .val (.int xs), .val (.long y1), .second, .val (.long (9223372036854775807 : Int64)), .second, .val (.long y3), .second, .val (.long (9223372036854775807 : Int64)), .second, .unset, .unset, .unset, .unset, .unset, .unset, .unset, .unset, .unset, .unset, .unset, .unset, .unset, .unset] []) (fun _ kx_ => XS.lstore X0.here hx rfl (hb hby at_65) rfl (l' := #[.val (.long y1), .second, .val (.long y2), .second, .val (.long y3), .second, .val (.long y4), .second, .val (.int xs), .val (.long y1), .second, .val (.long (9223372036854775807 : Int64)), .second, .val (.long y3), .second, .val (.long (9223372036854775807 : Int64)), .second, .unset, .unset, .unset, .unset, .unset, .unset, .unset, .unset, .unset, .unset, .unset, .unset, .unset, .unset]) rfl kx_) ?_
          refine W.s1 (mkF m 69 #[.val (.long y1), .second, .val (.long y2), .second, .val (.long y3), .second, .val (.long y4), .second, .val (.int xs), .val (.long y1), .second, .val (.long (9223372036854775807 : Int64)), .second, .val (.long y3), .second, .val (.long (9223372036854775807 : Int64)), .second, .unset, .unset, .unset, .unset, .unset, .unset, .unset, .unset, .unset, .unset, .unset, .unset, .unset, .unset] [(.int xs)]) (fun _ kx_ => XS.iload X0.here hx rfl (hb hby at_67) rfl kx_) ?_
          refine W.s1 (mkF m 71 #[.val (.long y1), .second, .val (.long y2), .second, .val (.long y3), .second, .val (.long y4), .second, .val (.int xs), .val (.long y1), .second, .val (.long (9223372036854775807 : Int64)), .second, .val (.long y3), .second, .val (.long (9223372036854775807 : Int64)), .second, .unset, .unset, .unset, .unset, .unset, .unset, .unset, .unset, .unset, .unset, .unset, .unset, .unset, .unset] [(.int (32 : Int32)), (.int xs)]) (fun _ kx_ => XS.bipush X0.here hx rfl (hb hby at_69) kx_) ?_
          refine W.s1 (mkF m 72 #[.val (.long y1), .second, .val (.long y2), .second, .val (.long y3), .second, .val (.long y4), .second, .val (.int xs), .val (.long y1), .second, .val (.long (9223372036854775807 : Int64)), .second, .val (.long y3), .second, .val (.long (9223372036854775807 : Int64)), .second, .unset, .unset, .unset, .unset, .unset, .unset, .unset, .unset, .unset, .unset, .unset, .unset, .unset, .unset] [(.int (xs &&& (32 : Int32)))]) (fun _ kx_ => XS.iand X0.here hx rfl (hb hby at_71) rfl kx_) ?_
          refine W.ifc X0 hx (hb hby at_72) (pc' := 83) (pc'' := 75) (by decide) (by decide) rfl (fun (c72 : (xs &&& (32 : Int32)) = (0 : Int32)) => ?_) (fun (c72 : ¬ (xs &&& (32 : Int32)) = (0 : Int32)) => ?_)
          · refine W.s1 (mkF m 85 #[.val (.long y1), .second, .val (.long y2), .second, .val (.long y3), .second, .val (.long y4), .second, .val (.int xs), .val (.long y1), .second, .val (.long (9223372036854775807 : Int64)), .second, .val (.long y3), .second, .val (.long (9223372036854775807 : Int64)), .second, .unset, .unset, .unset, .unset, .unset, .unset, .unset, .unset, .unset, .unset, .unset, .unset, .unset, .unset] [(.int xs)]) (fun _ kx_ => XS.iload X0.here hx rfl (hb hby at_83) rfl kx_) ?_
            refine W.s1 (mkF m 87 #[.val (.long y1), .second, .val (.long y2), .second, .val (.long y3), .second, .val (.long y4), .second, .val (.int xs), .val (.long y1), .second, .val (.long (9223372036854775807 : Int64)), .second, .val (.long y3), .second, .val (.long (9223372036854775807 : Int64)), .second, .unset, .unset, .unset, .unset, .unset, .unset, .unset, .unset, .unset, .unset, .unset, .unset, .unset, .unset] [(.int (64 : Int32)), (.int xs)]) (fun _ kx_ => XS.bipush X0.here hx rfl (hb hby at_85) kx_) ?_
            refine W.s1 (mkF m 88 #[.val (.long y1), .second, .val (.long y2), .second, .val (.long y3), .second, .val (.long y4), .second, .val (.int xs), .val (.long y1), .second, .val (.long (9223372036854775807 : Int64)), .second, .val (.long y3), .second, .val (.long (9223372036854775807 : Int64)), .second, .unset, .unset, .unset, .unset, .unset, .unset, .unset, .unset, .unset, .unset, .unset, .unset, .unset, .unset] [(.int (xs &&& (64 : Int32)))]) (fun _ kx_ => XS.iand X0.here hx rfl (hb hby at_87) rfl kx_) ?_
            refine W.ifc X0 hx (hb hby at_88) (pc' := 99) (pc'' := 91) (by decide) (by decide) rfl (fun (c88 : (xs &&& (64 : Int32)) = (0 : Int32)) => ?_) (fun (c88 : ¬ (xs &&& (64 : Int32)) = (0 : Int32)) => ?_)
            · refine W.gets X0 hx hZ hown (host := "") (Or.inl (hw _ (List.mem_of_getElem? (i := 2) rfl))) Via.refl e0 (Sta.ext O0.2 S_VALID) (hb hby at_99) (pc' := 102) rfl (fun T182 X182 e182 => ?_)
              refine W.s1 (mkF m 104 #[.val (.long y1), .second, .val (.long y2), .second, .val (.long y3), .second, .val (.long y4), .second, .val (.int xs), .val (.long y1), .second, .val (.long (9223372036854775807 : Int64)), .second, .val (.long y3), .second, .val (.long (9223372036854775807 : Int64)), .second, .val (.ref aV), .unset, .unset, .unset, .unset, .unset, .unset, .unset, .unset, .unset, .unset, .unset, .unset, .unset] []) (fun _ kx_ => XS.astore X182.here hx rfl (hb hby at_102) rfl rfl (l' := #[.val (.long y1), .second, .val (.long y2), .second, .val (.long y3), .second, .val (.long y4), .second, .val (.int xs), .val (.long y1), .second, .val (.long (9223372036854775807 : Int64)), .second, .val (.long y3), .second, .val (.long (9223372036854775807 : Int64)), .second, .val (.ref aV), .unset, .unset, .unset, .unset, .unset, .unset, .unset, .unset, .unset, .unset, .unset, .unset, .unset]) rfl kx_) ?_
              exact J104 _ _ _ _ _ _ X182 e182 E_VALID
            · refine W.gets X0 hx hZ hown (host := "") (Or.inl (hw _ (List.mem_of_getElem? (i := 89) rfl))) Via.refl e0 (Sta.ext O0.2 S_UNDECIDED) (hb hby at_91) (pc' := 94) rfl (fun T183 X183 e183 => ?_)
              refine W.s1 (mkF m 96 #[.val (.long y1), .second, .val (.long y2), .second, .val (.long y3), .second, .val (.long y4), .second, .val (.int xs), .val (.long y1), .second, .val (.long (9223372036854775807 : Int64)), .second, .val (.long y3), .second, .val (.long (9223372036854775807 : Int64)), .second, .val (.ref aU), .unset, .unset, .unset, .unset, .unset, .unset, .unset, .unset, .unset, .unset, .unset, .unset, .unset] []) (fun _ kx_ => XS.astore X183.here hx rfl (hb hby at_94) rfl rfl (l' := #[.val (.long y1), .second, .val (.long y2), .second, .val (.long y3), .second, .val (.long y4), .second, .val (.int xs), .val (.long y1), .second, .val (.long (9223372036854775807 : Int64)), .second, .val (.long y3), .second, .val (.long (9223372036854775807 : Int64)), .second, .val (.ref aU), .unset, .unset, .unset, .unset, .unset, .unset, .unset, .unset, .unset, .unset, .unset, .unset, .unset]) rfl kx_) ?_
              refine W.s1 (mkF m 104 #[.val (.long y1), .second, .val (.long y2), .second, .val (.long y3), .second, .val (.long y4), .second, .val (.int xs), .val (.long y1), .second, .val (.long (9223372036854775807 : Int64)), .second, .val (.long y3), .second, .val (.long (9223372036854775807 : Int64)), .second, .val (.ref aU), .unset, .unset, .unset, .unset, .unset, .unset, .unset, .unset, .unset, .unset, .unset, .unset, .unset] []) (fun _ kx_ => XS.goto X183.here hx rfl (pc0 := 96) (pc' := 104) rfl (hb hby at_96) (by decide) (by decide) kx_) ?_
              exact J104 _ _ _ _ _ _ X183 e183 E_UNDECIDED
          · refine W.gets X0 hx hZ hown (host := "") (Or.inl (hw _ (List.mem_of_getElem? (i := 87) rfl))) Via.refl e0 (Sta.ext O0.2 S_INVALID) (hb hby at_75) (pc' := 78) rfl (fun T184 X184 e184 => ?_)
            refine W.s1 (mkF m 80 #[.val (.long y1), .second, .val (.long y2), .second, .val (.long y3), .second, .val (.long y4), .second, .val (.int xs), .val (.long y1), .second, .val (.long (9223372036854775807 : Int64)), .second, .val (.long y3), .second, .val (.long (9223372036854775807 : Int64)), .second, .val (.ref aI), .unset, .unset, .unset, .unset, .unset, .unset, .unset, .unset, .unset, .unset, .unset, .unset, .unset] []) (fun _ kx_ => XS.astore X184.here hx rfl (hb hby at_78) rfl rfl (l' := #[.val (.long y1), .second, .val (.long y2), .second, .val (.long y3), .second, .val (.long y4), .second, .val (.int xs), .val (.long y1), .second, .val (.long (9223372036854775807 : Int64)), .second, .val (.long y3), .second, .val (.long (9223372036854775807 : Int64)), .second, .val (.ref aI), .unset, .unset, .unset, .unset, .unset, .unset, .unset, .unset, .unset, .unset, .unset, .unset, .unset]) rfl kx_) ?_
            refine W.s1 (mkF m 104 #[.val (.long y1), .second, .val (.long y2), .second, .val (.long y3), .second, .val (.long y4), .second, .val (.int xs), .val (.long y1), .second, .val (.long (9223372036854775807 : Int64)), .second, .val (.long y3), .second, .val (.long (9223372036854775807 : Int64)), .second, .val (.ref aI), .unset, .unset, .unset, .unset, .unset, .unset, .unset, .unset, .unset, .unset, .unset, .unset, .unset] []) (fun _ kx_ => XS.goto X184.here hx rfl (pc0 := 80) (pc' := 104) rfl (hb hby at_80) (by decide) (by decide) kx_) ?_
            exact J104 _ _ _ _ _ _ X184 e184 E_INVALID
      · refine W.s1 (mkF m 42 #[.val (.long y1), .second, .val (.long y2), .second, .val (.long y3), .second, .val (.long y4), .second, .val (.int xs), .val (.long y1), .second, .val (.long (9223372036854775807 : Int64)), .second, .unset, .unset, .unset, .unset, .unset, .unset, .unset, .unset, .unset, .unset, .unset, .unset, .unset, .unset, .unset, .unset, .unset, .unset] [(.long (-9223372036854775808 : Int64))]) (fun _ kx_ => X0.ldc2Long hx hown (mvT hZ (hw _ (List.mem_of_getElem? (i := 0) rfl))) (g := (mkF m 39 #[.val (.long y1), .second, .val (.long y2), .second, .val (.long y3), .second, .val (.long y4), .second, .val (.int xs), .val (.long y1), .second, .val (.long (9223372036854775807 : Int64)), .second, .unset, .unset, .unset, .unset, .unset, .unset, .unset, .unset, .unset, .unset, .unset, .unset, .unset, .unset, .unset, .unset, .unset, .unset] [])) rfl (hb hby at_39) _ kx_) ?_
        refine W.s1 (mkF m 47 #[.val (.long y1), .second, .val (.long y2), .second, .val (.long y3), .second, .val (.long y4), .second, .val (.int xs), .val (.long y1), .second, .val (.long (9223372036854775807 : Int64)), .second, .unset, .unset, .unset, .unset, .unset, .unset, .unset, .unset, .unset, .unset, .unset, .unset, .unset, .unset, .unset, .unset, .unset, .unset] [(.long (-9223372036854775808 : Int64))]) (fun _ kx_ => XS.goto X0.here hx rfl (pc0 := 42) (pc' := 47) rfl (hb hby at_42) (by decide) (by decide) kx_) ?_
        refine W.s1 (mkF m 49 #[.val (.long y1), .second, .val (.long y2), .second, .val (.long y3), .second, .val (.long y4), .second, .val (.int xs), .val (.long y1), .second, .val (.long (9223372036854775807 : Int64)), .second, .val (.long (-9223372036854775808 : Int64)), .second, .unset, .unset, .unset, .unset, .unset, .unset, .unset, .unset, .unset, .unset, .unset, .unset, .unset, .unset, .unset, .unset] []) (fun _ kx_ => XS.lstore X0.here hx rfl (hb hby at_47) rfl (l' := #[.val (.long y1), .second, .val (.long y2), .second, .val (.long y3), .second, .val (.long y4), .second, .val (.int xs), .val (.long y1), .second, .val (.long (9223372036854775807 : Int64)), .second, .val (.long (-9223372036854775808 : Int64)), .second, .unset, .unset, .unset, .unset, .unset, .unset, .unset, .unset, .unset, .unset, .unset, .unset, .unset, .unset, .unset, .unset]) rfl kx_) ?_
        refine W.s1 (mkF m 51 #[.val (.long y1), .second, .val (.long y2), .second, .val (.long y3), .second, .val (.long y4), .second, .val (.int xs), .val (.long y1), .second, .val (.long (9223372036854775807 : Int64)), .second, .val (.long (-9223372036854775808 : Int64)), .second, .unset, .unset, .unset, .unset, .unset, .unset, .unset, .unset, .unset, .unset, .unset, .unset, .unset, .unset, .unset, .unset] [(.int xs)]) (fun _ kx_ => XS.iload X0.here hx rfl (hb hby at_49) rfl kx_) ?_
        refine W.s1 (mkF m 53 #[.val (.long y1), .second, .val (.long y2), .second, .val (.long y3), .second, .val (.long y4), .second, .val (.int xs), .val (.long y1), .second, .val (.long (9223372036854775807 : Int64)), .second, .val (.long (-9223372036854775808 : Int64)), .second, .unset, .unset, .unset, .unset, .unset, .unset, .unset, .unset, .unset, .unset, .unset, .unset, .unset, .unset, .unset, .unset] [(.int (8 : Int32)), (.int xs)]) (fun _ kx_ => XS.bipush X0.here hx rfl (hb hby at_51) kx_) ?_
        refine W.s1 (mkF m 54 #[.val (.long y1), .second, .val (.long y2), .second, .val (.long y3), .second, .val (.long y4), .second, .val (.int xs), .val (.long y1), .second, .val (.long (9223372036854775807 : Int64)), .second, .val (.long (-9223372036854775808 : Int64)), .second, .unset, .unset, .unset, .unset, .unset, .unset, .unset, .unset, .unset, .unset, .unset, .unset, .unset, .unset, .unset, .unset] [(.int (xs &&& (8 : Int32)))]) (fun _ kx_ => XS.iand X0.here hx rfl (hb hby at_53) rfl kx_) ?_
        refine W.ifc X0 hx (hb hby at_54) (pc' := 63) (pc'' := 57) (by decide) (by decide) rfl (fun (c54 : (xs &&& (8 : Int32)) = (0 : Int32)) => ?_) (fun (c54 : ¬ (xs &&& (8 : Int32)) = (0 : Int32)) => ?_)
        · refine W.s1 (mkF m 65 #[.val (.long y1), .second, .val (.long y2), .second, .val (.long y3), .second, .val (.long y4), .second, .val (.int xs), .val (.long y1), .second, .val (.long (9223372036854775807 : Int64)), .second, .val (.long (-9223372036854775808 : Int64)), .second, .unset, .unset, .unset, .unset, .unset, .unset, .unset, .unset, .unset, .unset, .unset, .unset, .unset, .unset, .unset, .unset] [(.long y4)]) (fun _ kx_ => XS.lload X0.here hx rfl (hb hby at_63) rfl kx_) ?_
          refine W.s1 (mkF m 67 #[.val (.long y1), .second, .val (.long y2), .second, .val (.long y3), .second, .val (.long y4), .second, .val (.int xs), .val (.long y1), .second, .val (.long (9223372036854775807 : Int64)), .second, .val (.long (-9223372036854775808 : Int64)), .second, .val (.long y4), .second, .unset, .unset, .unset, .unset, .unset, .unset, .unset, .unset, .unset, .unset, .unset, .unset, .unset, .unset] []) (fun _ kx_ => XS.lstore X0.here hx rfl (hb hby at_65) rfl (l' := #[.val (.long y1), .second, .val (.long y2), .second, .val (.long y3), .second, .val (.long y4), .second, .val (.int xs), .val (.long y1), .second, .val (.long (9223372036854775807 : Int64)), .second, .val (.long (-9223372036854775808 : Int64)), .second, .val (.long y4), .second, .unset, .unset, .unset, .unset, .unset, .unset, .unset, .unset, .unset, .unset, .unset, .unset, .unset, .unset]) rfl kx_) ?_
          refine W.s1 (mkF m 69 #[.val (.long y1), .second, .val (.long y2), .second, .val (.long y3), .second, .val (.long y4), .second, .val (.int xs), .val (.long y1), .second, .val (.long (9223372036854775807 : Int64)), .second, .val (.long (-9223372036854775808 : Int64)), .second, .val (.long y4), .second, .unset, .unset, .unset, .unset, .unset, .unset, .unset, .unset, .unset, .unset, .unset, .unset, .unset, .unset] [(.int xs)]) (fun _ kx_ => XS.iload X0.here hx rfl (hb hby at_67) rfl kx_) ?_
          refine W.s1 (mkF m 71 #[.val (.long y1), .second, .val (.long y2), .second, .val (.long y3), .second, .val (.long y4), .second, .val (.int xs), .val (.long y1), .second, .val (.long (9223372036854775807 : Int64)), .second, .val (.long (-9223372036854775808 : Int64)), .second, .val (.long y4), .second, .unset, .unset, .unset, .unset, .unset, .unset, .unset, .unset, .unset, .unset, .unset, .unset, .unset, .unset] [(.int (32 : Int32)), (.int xs)]) (fun _ kx_ => XS.bipush X0.here hx rfl (hb hby at_69) kx_) ?_
          refine W.s1 (mkF m 72 #[.val (.long y1), .second, .val (.long y2), .second, .val (.long y3), .second, .val (.long y4), .second, .val (.int xs), .val (.long y1), .second, .val (.long (9223372036854775807 : Int64)), .second, .val (.long (-9223372036854775808 : Int64)), .second, .val (.long y4), .second, .unset, .unset, .unset, .unset, .unset, .unset, .unset, .unset, .unset, .unset, .unset, .unset, .unset, .unset] [(.int (xs &&& (32 : Int32)))]) (fun _ kx_ => XS.iand X0.here hx rfl (hb hby at_71) rfl kx_) ?_
          refine W.ifc X0 hx (hb hby at_72) (pc' := 83) (pc'' := 75) (by decide) (by decide) rfl (fun (c72 : (xs &&& (32 : Int32)) = (0 : Int32)) => ?_) (fun (c72 : ¬ (xs &&& (32 : Int32)) = (0 : Int32)) => ?_)
          · refine W.s1 (mkF m 85 #[.val (.long y1), .second, .val (.long y2), .second, .val (.long y3), .second, .val (.long y4), .second, .val (.int xs), .val (.long y1), .second, .val (.long (9223372036854775807 : Int64)), .second, .val (.long (-9223372036854775808 : Int64)), .second, .val (.long y4), .second, .unset, .unset, .unset, .unset, .unset, .unset, .unset, .unset, .unset, .unset, .unset, .unset, .unset, .unset] [(.int xs)]) (fun _ kx_ => XS.iload X0.here hx rfl (hb hby at_83) rfl kx_) ?_
            refine W.s1 (mkF m 87 #[.val (.long y1), .second, .val (.long y2), .second, .val (.long y3), .second, .val (.long y4), .second, .val (.int xs), .val (.long y1), .second, .val (.long (9223372036854775807 : Int64)), .second, .val (.long (-9223372036854775808 : Int64)), .second, .val (.long y4), .second, .unset, .unset, .unset, .unset, .unset, .unset, .unset, .unset, .unset, .unset, .unset, .unset, .unset, .unset] [(.int (64 : Int32)), (.int xs)]) (fun _ kx_ => XS.bipush X0.here hx rfl (hb hby at_85) kx_) ?_
            refine W.s1 (mkF m 88 #[.val (.long y1), .second, .val (.long y2), .second, .val (.long y3), .second, .val (.long y4), .second, .val (.int xs), .val (.long y1), .second, .val (.long (9223372036854775807 : Int64)), .second, .val (.long (-9223372036854775808 : Int64)), .second, .val (.long y4), .second, .unset, .unset, .unset, .unset, .unset, .unset, .unset, .unset, .unset, .unset, .unset, .unset, .unset, .unset] [(.int (xs &&& (64 : Int32)))]) (fun _ kx_ => XS.iand X0.here hx rfl (hb hby at_87) rfl kx_) ?_
            refine W.ifc X0 hx (hb hby at_88) (pc' := 99) (pc'' := 91) (by decide) (by decide) rfl (fun (c88 : (xs &&& (64 : Int32)) = (0 : Int32)) => ?_) (fun (c88 : ¬ (xs &&& (64 : Int32)) = (0 : Int32)) => ?_)
            · refine W.gets X0 hx hZ hown (host := "") (Or.inl (hw _ (List.mem_of_getElem? (i := 2) rfl))) Via.refl e0 (Sta.ext O0.2 S_VALID) (hb hby at_99) (pc' := 102) rfl (fun T185 X185 e185 => ?_)
              refine W.s1 (mkF m 104 #[.val (.long y1), .second, .val (.long y2), .second, .val (.long y3), .second, .val (.long y4), .second, .val (.int xs), .val (.long y1), .second, .val (.long (9223372036854775807 : Int64)), .second, .val (.long (-9223372036854775808 : Int64)), .second, .val (.long y4), .second, .val (.ref aV), .unset, .unset, .unset, .unset, .unset, .unset, .unset, .unset, .unset, .unset, .unset, .unset, .unset] []) (fun _ kx_ => XS.astore X185.here hx rfl (hb hby at_102) rfl rfl (l' := #[.val (.long y1), .second, .val (.long y2), .second, .val (.long y3), .second, .val (.long y4), .second, .val (.int xs), .val (.long y1), .second, .val (.long (9223372036854775807 : Int64)), .second, .val (.long (-9223372036854775808 : Int64)), .second, .val (.long y4), .second, .val (.ref aV), .unset, .unset, .unset, .unset, .unset, .unset, .unset, .unset, .unset, .unset, .unset, .unset, .unset]) rfl kx_) ?_
              exact J104 _ _ _ _ _ _ X185 e185 E_VALID
            · refine W.gets X0 hx hZ hown (host := "") (Or.inl (hw _ (List.mem_of_getElem? (i := 89) rfl))) Via.refl e0 (Sta.ext O0.2 S_UNDECIDED) (hb hby at_91) (pc' := 94) rfl (fun T186 X186 e186 => ?_)
              refine W.s1 (mkF m 96 #[.val (.long y1), .second, .val (.long y2), .second, .val (.long y3), .second, .val (.long y4), .second, .val (.int xs), .val (.long y1), .second, .val (.long (9223372036854775807 : Int64)), .second, .val (.long (-9223372036854775808 : Int64)), .second, .val (.long y4), .second, .val (.ref aU), .unset, .unset, .unset, .unset, .unset, .unset, .unset, .unset, .unset, .unset, .unset, .unset, .unset] []) (fun _ kx_ => XS.astore X186.here hx rfl (hb hby at_94) rfl rfl (l' := #[.val (.long y1), .second, .val (.long y2), .second, .val (.long y3), .second, .val (.long y4), .second, .val (.int xs), .val (.long y1), .second, .val (.long (9223372036854775807 : Int64)), .second, .val (.long (-9223372036854775808 : Int64)), .second, .val (.long y4), .second, .val (.ref aU), .unset, .unset, .unset, .unset, .unset, .unset, .unset, .unset, .unset, .unset, .unset, .unset, .unset]) rfl kx_) ?_
              refine W.s1 (mkF m 104 #[.val (.long y1), .second, .val (.long y2), .second, .val (.long y3), .second, .val (.long y4), .second, .val (.int xs), .val (.long y1), .second, .val (.long (9223372036854775807 : Int64)), .second, .val (.long (-9223372036854775808 : Int64)), .second, .val (.long y4), .second, .val (.ref aU), .unset, .unset, .unset, .unset, .unset, .unset, .unset, .unset, .unset, .unset, .unset, .unset, .unset] []) (fun _ kx_ => XS.goto X186.here hx rfl (pc0 := 96) (pc' := 104) rfl (hb hby at_96) (by decide) (by decide) kx_) ?_
              exact J104 _ _ _ _ _ _ X186 e186 E_UNDECIDED
          · refine W.gets X0 hx hZ hown (host := "") (Or.inl (hw _ (List.mem_of_getElem? (i := 87) rfl))) Via.refl e0 (Sta.ext O0.2 S_INVALID) (hb hby at_75) (pc' := 78) rfl (fun T187 X187 e187 => ?_)
            refine W.s1 (mkF m 80 #[.val (.long y1), .second, .val (.long y2), .second, .val (.long y3), .second, .val (.long y4), .second, .val (.int xs), .val (.long y1), .second, .val (.long (9223372036854775807 : Int64)), .second, .val (.long (-9223372036854775808 : Int64)), .second, .val (.long y4), .second, .val (.ref aI), .unset, .unset, .unset, .unset, .unset, .unset, .unset, .unset, .unset, .unset, .unset, .unset, .unset] []) (fun _ kx_ => XS.astore X187.here hx rfl (hb hby at_78) rfl rfl (l' := #[.val (.long y1), .second, .val (.long y2), .second, .val (.long y3), .second, .val (.long y4), .second, .val (.int xs), .val (.long y1), .second, .val (.long (9223372036854775807 : Int64)), .second, .val (.long (-9223372036854775808 : Int64)), .second, .val (.long y4), .second, .val (.ref aI), .unset, .unset, .unset, .unset, .unset, .unset, .unset, .unset, .unset, .unset, .unset, .unset, .unset]) rfl kx_) ?_
            refine W.s1 (mkF m 104 #[.val (.long y1), .second, .val (.long y2), .second, .val (.long y3), .second, .val (.long y4), .second, .val (.int xs), .val (.long y1), .second, .val (.long (9223372036854775807 : Int64)), .second, .val (.long (-9223372036854775808 : Int64)), .second, .val (.long y4), .second, .val (.ref aI), .unset, .unset, .unset, .unset, .unset, .unset, .unset, .unset, .unset, .unset, .unset, .unset, .unset] []) (fun _ kx_ => XS.goto X187.here hx rfl (pc0 := 80) (pc' := 104) rfl (hb hby at_80) (by decide) (by decide) kx_) ?_
            exact J104 _ _ _ _ _ _ X187 e187 E_INVALID
        · refine W.s1 (mkF m 60 #[.val (.long y1), .second, .val (.long y2), .second, .val (.long y3), .second, .val (.long y4), .second, .val (.int xs), .val (.long y1), .second, .val (.long (9223372036854775807 : Int64)), .second, .val (.long (-9223372036854775808 : Int64)), .second, .unset, .unset, .unset, .unset, .unset, .unset, .unset, .unset, .unset, .unset, .unset, .unset, .unset, .unset, .unset, .unset] [(.long (9223372036854775807 : Int64))]) (fun _ kx_ => X0.ldc2Long hx hown (mvT hZ (hw _ (List.mem_of_getElem? (i := 1) rfl))) (g := (mkF m 57 #[.val (.long y1), .second, .val (.long y2), .second, .val (.long y3), .second, .val (.long y4), .second, .val (.int xs), .val (.long y1), .second, .val (.long (9223372036854775807 : Int64)), .second, .val (.long (-9223372036854775808 : Int64)), .second, .unset, .unset, .unset, .unset, .unset, .unset, .unset, .unset, .unset, .unset, .unset, .unset, .unset, .unset, .unset, .unset] [])) rfl (hb hby at_57) _ kx_) ?_
          refine W.s1 (mkF m 65 #[.val (.long y1), .second, .val (.long y2), .second, .val (.long y3), .second, .val (.long y4), .second, .val (.int xs), .val (.long y1), .second, .val (.long (9223372036854775807 : Int64)), .second, .val (.long (-9223372036854775808 : Int64)), .second, .unset, .unset, .unset, .unset, .unset, .unset, .unset, .unset, .unset, .unset, .unset, .unset, .unset, .unset, .unset, .unset] [(.long (9223372036854775807 : Int64))]) (fun _ kx_ => XS.goto X0.here hx rfl (pc0 := 60) (pc' := 65) rfl (hb hby at_60) (by decide) (by decide) kx_) ?_
          refine W.s1 (mkF m 67 #[.val (.long y1), .second, .val (.long y2), .second, .val (.long y3), .second, .val (.long y4), .second, .val (.int xs), .val (.long y1), .second, .val (.long (9223372036854775807 : Int64)), .second, .val (.long (-9223372036854775808 : Int64)), .second, .val (.long (9223372036854775807 : Int64)), .second, .unset, .unset, .unset, .unset, .unset, .unset, .unset, .unset, .unset, .unset, .unset, .unset, .unset, .unset] []) (fun _ kx_ => XS.lstore X0.here hx rfl (hb hby at_65) rfl (l' := #[.val (.long y1), .second, .val (.long y2), .second, .val (.long y3), .second, .val (.long y4), .second, .val (.int xs), .val (.long y1), .second, .val (.long (9223372036854775807 : Int64)), .second, .val (.long (-9223372036854775808 : Int64)), .second, .val (.long (9223372036854775807 : Int64)), .second, .unset, .unset, .unset, .unset, .unset, .unset, .unset, .unset, .unset, .unset, .unset, .unset, .unset, .unset]) rfl kx_) ?_
          refine W.s1 (mkF m 69 #[.val (.long y1), .second, .val (.long y2), .second, .val (.long y3), .second, .val (.long y4), .second, .val (.int xs), .val (.long y1), .second, .val (.long (9223372036854775807 : Int64)), .second, .val (.long (-9223372036854775808 : Int64)), .second, .val (.long (9223372036854775807 : Int64)), .second, .unset, .unset, .unset, .unset, .unset, .unset, .unset, .unset, .unset, .unset, .unset, .unset, .unset, .unset] [(.int xs)]) (fun _ kx_ => XS.iload X0.here hx rfl (hb hby at_67) rfl kx_) ?_
          refine W.s1 (mkF m 71 #[.val (.long y1), .second, .val (.long y2), .second, .val (.long y3), .second, .val (.long y4), .second, .val (.int xs), .val (.long y1), .second, .val (.long (9223372036854775807 : Int64)), .second, .val (.long (-9223372036854775808 : Int64)), .second, .val (.long (9223372036854775807 : Int64)), .second, .unset, .unset, .unset, .unset, .unset, .unset, .unset, .unset, .unset, .unset, .unset, .unset, .unset, .unset] [(.int (32 : Int32)), (.int xs)]) (fun _ kx_ => XS.bipush X0.here hx rfl (hb hby at_69) kx_) ?_
          refine W.s1 (mkF m 72 #[.val (.long y1), .second, .val (.long y2), .second, .val (.long y3), .second, .val (.long y4), .second, .val (.int xs), .val (.long y1), .second, .val (.long (9223372036854775807 : Int64)), .second, .val (.long (-9223372036854775808 : Int64)), .second, .val (.long (9223372036854775807 : Int64)), .second, .unset, .unset, .unset, .unset, .unset, .unset, .unset, .unset, .unset, .unset, .unset, .unset, .unset, .unset] [(.int (xs &&& (32 : Int32)))]) (fun _ kx_ => XS.iand X0.here hx rfl (hb hby at_71) rfl kx_) ?_
          refine W.ifc X0 hx (hb hby at_72) (pc' := 83) (pc'' := 75) (by decide) (by decide) rfl (fun (c72 : (xs &&& (32 : Int32)) = (0 : Int32)) => ?_) (fun (c72 : ¬ (xs &&& (32 : Int32)) = (0 : Int32)) => ?_)
          · refine W.s1 (mkF m 85 #[.val (.long y1), .second, .val (.long y2), .second, .val (.long y3), .second, .val (.long y4), .second, .val (.int xs), .val (.long y1), .second, .val (.long (9223372036854775807 : Int64)), .second, .val (.long (-9223372036854775808 : Int64)), .second, .val (.long (9223372036854775807 : Int64)), .second, .unset, .unset, .unset, .unset, .unset, .unset, .unset, .unset, .unset, .unset, .unset, .unset, .unset, .unset] [(.int xs)]) (fun _ kx_ => XS.iload X0.here hx rfl (hb hby at_83) rfl kx_) ?_
            refine W.s1 (mkF m 87 #[.val (.long y1), .second, .val (.long y2), .second, .val (.long y3), .second, .val (.long y4), .second, .val (.int xs), .val (.long y1), .second, .val (.long (9223372036854775807 : Int64)), .second, .val (.long (-9223372036854775808 : Int64)), .second, .val (.long (9223372036854775807 : Int64)), .second, .unset, .unset, .unset, .unset, .unset, .unset, .unset, .unset, .unset, .unset, .unset, .unset, .unset, .unset] [(.int (64 : Int32)), (.int xs)]) (fun _ kx_ => XS.bipush X0.here hx rfl (hb hby at_85) kx_) ?_
            refine W.s1 (mkF m 88 #[.val (.long y1), .second, .val (.long y2), .second, .val (.long y3), .second, .val (.long y4), .second, .val (.int xs), .val (.long y1), .second, .val (.long (9223372036854775807 : Int64)), .second, .val (.long (-9223372036854775808 : Int64)), .second, .val (.long (9223372036854775807 : Int64)), .second, .unset, .unset, .unset, .unset, .unset, .unset, .unset, .unset, .unset, .unset, .unset, .unset, .unset, .unset] [(.int (xs &&& (64 : Int32)))]) (fun _ kx_ => XS.iand X0.here hx rfl (hb hby at_87) rfl kx_) ?_
            refine W.ifc X0 hx (hb hby at_88) (pc' := 99) (pc'' := 91) (by decide) (by decide) rfl (fun (c88 : (xs &&& (64 : Int32)) = (0 : Int32)) => ?_) (fun (c88 : ¬ (xs &&& (64 : Int32)) = (0 : Int32)) => ?_)
            · refine W.gets X0 hx hZ hown (host := "") (Or.inl (hw _ (List.mem_of_getElem? (i := 2) rfl))) Via.refl e0 (Sta.ext O0.2 S_VALID) (hb hby at_99) (pc' := 102) rfl (fun T188 X188 e188 => ?_)
              refine W.s1 (mkF m 104 #[.val (.long y1), .second, .val (.long y2), .second, .val (.long y3), .second, .val (.long y4), .second, .val (.int xs), .val (.long y1), .second, .val (.long (9223372036854775807 : Int64)), .second, .val (.long (-9223372036854775808 : Int64)), .second, .val (.long (9223372036854775807 : Int64)), .second, .val (.ref aV), .unset, .unset, .unset, .unset, .unset, .unset, .unset, .unset, .unset, .unset, .unset, .unset, .unset] []) (fun _ kx_ => XS.astore X188.here hx rfl (hb hby at_102) rfl rfl (l' := #[.val (.long y1), .second, .val (.long y2), .second, .val (.long y3), .second, .val (.long y4), .second, .val (.int xs), .val (.long y1), .second, .val (.long (9223372036854775807 : Int64)), .second, .val (.long (-9223372036854775808 : Int64)), .second, .val (.long (9223372036854775807 : Int64)), .second, .val (.ref aV), .unset, .unset, .unset, .unset, .unset, .unset, .unset, .unset, .unset, .unset, .unset, .unset, .unset]) rfl kx_) ?_
              exact J104 _ _ _ _ _ _ X188 e188 E_VALID
            · refine W.gets X0 hx hZ hown (host := "") (Or.inl (hw _ (List.mem_of_getElem? (i := 89) rfl))) Via.refl e0 (Sta.ext O0.2 S_UNDECIDED) (hb hby at_91) (pc' := 94) rfl (fun T189 X189 e189 => ?_)
              refine W.s1 (mkF m 96 #[.val (.long y1), .second, .val (.long y2), .second, .val (.long y3), .second, .val (.long y4), .second, .val (.int xs), .val (.long y1), .second, .val (.long (9223372036854775807 : Int64)), .second, .val (.long (-9223372036854775808 : Int64)), .second, .val (.long (9223372036854775807 : Int64)), .second, .val (.ref aU), .unset, .unset, .unset, .unset, .unset, .unset, .unset, .unset, .unset, .unset, .unset, .unset, .unset] []) (fun _ kx_ => XS.astore X189.here hx rfl (hb hby at_94) rfl rfl (l' := #[.val (.long y1), .second, .val (.long y2), .second, .val (.long y3), .second, .val (.long y4), .second, .val (.int xs), .val (.long y1), .second, .val (.long (9223372036854775807 : Int64)), .second, .val (.long (-9223372036854775808 : Int64)), .second, .val (.long (9223372036854775807 : Int64)), .second, .val (.ref aU), .unset, .unset, .unset, .unset, .unset, .unset, .unset, .unset, .unset, .unset, .unset, .unset, .unset]) rfl kx_) ?_
              refine W.s1 (mkF m 104 #[.val (.long y1), .second, .val (.long y2), .second, .val (.long y3), .second, .val (.long y4), .second, .val (.int xs), .val (.long y1), .second, .val (.long (9223372036854775807 : Int64)), .second, .val (.long (-9223372036854775808 : Int64)), .second, .val (.long (9223372036854775807 : Int64)), .second, .val (.ref aU), .unset, .unset, .unset, .unset, .unset, .unset, .unset, .unset, .unset, .unset, .unset, .unset, .unset] []) (fun _ kx_ => XS.goto X189.here hx rfl (pc0 := 96) (pc' := 104) rfl (hb hby at_96) (by decide) (by decide) kx_) ?_
              exact J104 _ _ _ _ _ _ X189 e189 E_UNDECIDED
          · refine W.gets X0 hx hZ hown (host := "") (Or.inl (hw _ (List.mem_of_getElem? (i := 87) rfl))) Via.refl e0 (Sta.ext O0.2 S_INVALID) (hb hby at_75) (pc' := 78) rfl (fun T190 X190 e190 => ?_)
            refine W.s1 (mkF m 80 #[.val (.long y1), .second, .val (.long y2), .second, .val (.long y3), .second, .val (.long y4), .second, .val (.int xs), .val (.long y1), .second, .val (.long (9223372036854775807 : Int64)), .second, .val (.long (-9223372036854775808 : Int64)), .second, .val (.long (9223372036854775807 : Int64)), .second, .val (.ref aI), .unset, .unset, .unset, .unset, .unset, .unset, .unset, .unset, .unset, .unset, .unset, .unset, .unset] []) (fun _ kx_ => XS.astore X190.here hx rfl (hb hby at_78) rfl rfl (l' := #[.val (.long y1), .second, .val (.long y2), .second, .val (.long y3), .second, .val (.long y4), .second, .val (.int xs), .val (.long y1), .second, .val (.long (9223372036854775807 : Int64)), .second, .val (.long (-9223372036854775808 : Int64)), .second, .val (.long (9223372036854775807 : Int64)), .second, .val (.ref aI), .unset, .unset, .unset, .unset, .unset, .unset, .unset, .unset, .unset, .unset, .unset, .unset, .unset]) rfl kx_) ?_
            refine W.s1 (mkF m 104 #[.val (.long y1), .second, .val (.long y2), .second, .val (.long y3), .second, .val (.long y4), .second, .val (.int xs), .val (.long y1), .second, .val (.long (9223372036854775807 : Int64)), .second, .val (.long (-9223372036854775808 : Int64)), .second, .val (.long (9223372036854775807 : Int64)), .second, .val (.ref aI), .unset, .unset, .unset, .unset, .unset, .unset, .unset, .unset, .unset, .unset, .unset, .unset, .unset] []) (fun _ kx_ => XS.goto X190.here hx rfl (pc0 := 80) (pc' := 104) rfl (hb hby at_80) (by decide) (by decide) kx_) ?_
            exact J104 _ _ _ _ _ _ X190 e190 E_INVALID
  · refine W.s1 (mkF m 10 #[.val (.long y1), .second, .val (.long y2), .second, .val (.long y3), .second, .val (.long y4), .second, .val (.int xs), .unset, .unset, .unset, .unset, .unset, .unset, .unset, .unset, .unset, .unset, .unset, .unset, .unset, .unset, .unset, .unset, .unset, .unset, .unset, .unset, .unset, .unset] [(.long (-9223372036854775808 : Int64))]) (fun _ kx_ => X0.ldc2Long hx hown (mvT hZ (hw _ (List.mem_of_getElem? (i := 0) rfl))) (g := (mkF m 7 #[.val (.long y1), .second, .val (.long y2), .second, .val (.long y3), .second, .val (.long y4), .second, .val (.int xs), .unset, .unset, .unset, .unset, .unset, .unset, .unset, .unset, .unset, .unset, .unset, .unset, .unset, .unset, .unset, .unset, .unset, .unset, .unset, .unset, .unset, .unset] [])) rfl (hb hby at_7) _ kx_) ?_
    refine W.s1 (mkF m 14 #[.val (.long y1), .second, .val (.long y2), .second, .val (.long y3), .second, .val (.long y4), .second, .val (.int xs), .unset, .unset, .unset, .unset, .unset, .unset, .unset, .unset, .unset, .unset, .unset, .unset, .unset, .unset, .unset, .unset, .unset, .unset, .unset, .unset, .unset, .unset] [(.long (-9223372036854775808 : Int64))]) (fun _ kx_ => XS.goto X0.here hx rfl (pc0 := 10) (pc' := 14) rfl (hb hby at_10) (by decide) (by decide) kx_) ?_
    refine W.s1 (mkF m 16 #[.val (.long y1), .second, .val (.long y2), .second, .val (.long y3), .second, .val (.long y4), .second, .val (.int xs), .val (.long (-9223372036854775808 : Int64)), .second, .unset, .unset, .unset, .unset, .unset, .unset, .unset, .unset, .unset, .unset, .unset, .unset, .unset, .unset, .unset, .unset, .unset, .unset, .unset, .unset] []) (fun _ kx_ => XS.lstore X0.here hx rfl (hb hby at_14) rfl (l' := #[.val (.long y1), .second, .val (.long y2), .second, .val (.long y3), .second, .val (.long y4), .second, .val (.int xs), .val (.long (-9223372036854775808 : Int64)), .second, .unset, .unset, .unset, .unset, .unset, .unset, .unset, .unset, .unset, .unset, .unset, .unset, .unset, .unset, .unset, .unset, .unset, .unset, .unset, .unset]) rfl kx_) ?_
    refine W.s1 (mkF m 18 #[.val (.long y1), .second, .val (.long y2), .second, .val (.long y3), .second, .val (.long y4), .second, .val (.int xs), .val (.long (-9223372036854775808 : Int64)), .second, .unset, .unset, .unset, .unset, .unset, .unset, .unset, .unset, .unset, .unset, .unset, .unset, .unset, .unset, .unset, .unset, .unset, .unset, .unset, .unset] [(.int xs)]) (fun _ kx_ => XS.iload X0.here hx rfl (hb hby at_16) rfl kx_) ?_
    refine W.s1 (mkF m 19 #[.val (.long y1), .second, .val (.long y2), .second, .val (.long y3), .second, .val (.long y4), .second, .val (.int xs), .val (.long (-9223372036854775808 : Int64)), .second, .unset, .unset, .unset, .unset, .unset, .unset, .unset, .unset, .unset, .unset, .unset, .unset, .unset, .unset, .unset, .unset, .unset, .unset, .unset, .unset] [(.int (2 : Int32)), (.int xs)]) (fun _ kx_ => XS.iconst X0.here hx rfl (hb hby at_18) kx_) ?_
    refine W.s1 (mkF m 20 #[.val (.long y1), .second, .val (.long y2), .second, .val (.long y3), .second, .val (.long y4), .second, .val (.int xs), .val (.long (-9223372036854775808 : Int64)), .second, .unset, .unset, .unset, .unset, .unset, .unset, .unset, .unset, .unset, .unset, .unset, .unset, .unset, .unset, .unset, .unset, .unset, .unset, .unset, .unset] [(.int (xs &&& (2 : Int32)))]) (fun _ kx_ => XS.iand X0.here hx rfl (hb hby at_19) rfl kx_) ?_
    refine W.ifc X0 hx (hb hby at_20) (pc' := 29) (pc'' := 23) (by decide) (by decide) rfl (fun (c20 : (xs &&& (2 : Int32)) = (0 : Int32)) => ?_) (fun (c20 : ¬ (xs &&& (2 : Int32)) = (0 : Int32)) => ?_)
    · refine W.s1 (mkF m 30 #[.val (.long y1), .second, .val (.long y2), .second, .val (.long y3), .second, .val (.long y4), .second, .val (.int xs), .val (.long (-9223372036854775808 : Int64)), .second, .unset, .unset, .unset, .unset, .unset, .unset, .unset, .unset, .unset, .unset, .unset, .unset, .unset, .unset, .unset, .unset, .unset, .unset, .unset, .unset] [(.long y2)]) (fun _ kx_ => XS.lloadN X0.here hx rfl (hb hby at_29) rfl kx_) ?_
      refine W.s1 (mkF m 32 #[.val (.long y1), .second, .val (.long y2), .second, .val (.long y3), .second, .val (.long y4), .second, .val (.int xs), .val (.long (-9223372036854775808 : Int64)), .second, .val (.long y2), .second, .unset, .unset, .unset, .unset, .unset, .unset, .unset, .unset, .unset, .unset, .unset, .unset, .unset, .unset, .unset, .unset, .unset, .unset] []) (fun _ kx_ => XS.lstore X0.here hx rfl (hb hby at_30) rfl (l' := #[.val (.long y1), .second, .val (.long y2), .second, .val (.long y3), .second, .val (.long y4), .second, .val (.int xs), .val (.long (-9223372036854775808 : Int64)), .second, .val (.long y2), .second, .unset, .unset, .unset, .unset, .unset, .unset, .unset, .unset, .unset, .unset, .unset, .unset, .unset, .unset, .unset, .unset, .unset, .unset]) rfl kx_) ?_
      refine W.s1 (mkF m 34 #[.val (.long y1), .second, .val (.long y2), .second, .val (.long y3), .second, .val (.long y4), .second, .val (.int xs), .val (.long (-9223372036854775808 : Int64)), .second, .val (.long y2), .second, .unset, .unset, .unset, .unset, .unset, .unset, .unset, .unset, .unset, .unset, .unset, .unset, .unset, .unset, .unset, .unset, .unset, .unset] [(.int xs)]) (fun _ kx_ => XS.iload X0.here hx rfl (hb hby at_32) rfl kx_) ?_
      refine W.s1 (mkF m 35 #[.val (.long y1), .second, .val (.long y2), .second, .val (.long y3), .second, .val (.long y4), .second, .val (.int xs), .val (.long (-9223372036854775808 : Int64)), .second, .val (.long y2), .second, .unset, .unset, .unset, .unset, .unset, .unset, .unset, .unset, .unset, .unset, .unset, .unset, .unset, .unset, .unset, .unset, .unset, .unset] [(.int (4 : Int32)), (.int xs)]) (fun _ kx_ => XS.iconst X0.here hx rfl (hb hby at_34) kx_) ?_
      refine W.s1 (mkF m 36 #[.val (.long y1), .second, .val (.long y2), .second, .val (.long y3), .second, .val (.long y4), .second, .val (.int xs), .val (.long (-9223372036854775808 : Int64)), .second, .val (.long y2), .second, .unset, .unset, .unset, .unset, .unset, .unset, .unset, .unset, .unset, .unset, .unset, .unset, .unset, .unset, .unset, .unset, .unset, .unset] [(.int (xs &&& (4 : Int32)))]) (fun _ kx_ => XS.iand X0.here hx rfl (hb hby at_35) rfl kx_) ?_
      refine W.ifc X0 hx (hb hby at_36) (pc' := 45) (pc'' := 39) (by decide) (by decide) rfl (fun (c36 : (xs &&& (4 : Int32)) = (0 : Int32)) => ?_) (fun (c36 : ¬ (xs &&& (4 : Int32)) = (0 : Int32)) => ?_)
      · refine W.s1 (mkF m 47 #[.val (.long y1), .second, .val (.long y2), .second, .val (.long y3), .second, .val (.long y4), .second, .val (.int xs), .val (.long (-9223372036854775808 : Int64)), .second, .val (.long y2), .second, .unset, .unset, .unset, .unset, .unset, .unset, .unset, .unset, .unset, .unset, .unset, .unset, .unset, .unset, .unset, .unset, .unset, .unset] [(.long y3)]) (fun _ kx_ => XS.lload X0.here hx rfl (hb hby at_45) rfl kx_) ?_
        refine W.s1 (mkF m 49 #[.val (.long y1), .second, .val (.long y2), .second, .val (.long y3), .second, .val (.long y4), .second, .val (.int xs), .val (.long (-9223372036854775808 : Int64)), .second, .val (.long y2), .second, .val (.long y3), .second, .unset, .unset, .unset, .unset, .unset, .unset, .unset, .unset, .unset, .unset, .unset, .unset, .unset, .unset, .unset, .unset] []) (fun _ kx_ => XS.lstore X0.here hx rfl (hb hby at_47) rfl (l' := #[.val (.long y1), .second, .val (.long y2), .second, .val (.long y3), .second, .val (.long y4), .second, .val (.int xs), .val (.long (-9223372036854775808 : Int64)), .second, .val (.long y2), .second, .val (.long y3), .second, .unset, .unset, .unset, .unset, .unset, .unset, .unset, .unset, .unset, .unset, .unset, .unset, .unset, .unset, .unset, .unset]) rfl kx_) ?_
        refine W.s1 (mkF m 51 #[.val (.long y1), .second, .val (.long y2), .second, .val (.long y3), .second, .val (.long y4), .second, .val (.int xs), .val (.long (-9223372036854775808 : Int64)), .second, .val (.long y2), .second, .val (.long y3), .second, .unset, .unset, .unset, .unset, .unset, .unset, .unset, .unset, .unset, .unset, .unset, .unset, .unset, .unset, .unset, .unset] [(.int xs)]) (fun _ kx_ => XS.iload X0.here hx rfl (hb hby at_49) rfl kx_) ?_
        refine W.s1 (mkF m 53 #[.val (.long y1), .second, .val (.long y2), .second, .val (.long y3), .second, .val (.long y4), .second, .val (.int xs), .val (.long (-9223372036854775808 : Int64)), .second, .val (.long y2), .second, .val (.long y3), .second, .unset, .unset, .unset, .unset, .unset, .unset, .unset, .unset, .unset, .unset, .unset, .unset, .unset, .unset, .unset, .unset] [(.int (8 : Int32)), (.int xs)]) (fun _ kx_ => XS.bipush X0.here hx rfl (hb hby at_51) kx_) ?_
        refine W.s1 (mkF m 54 #[.val (.long y1), .second, .val (.long y2), .second, .val (.long y3), .second, .val (.long y4), .second, .val (.int xs), .val (.long (-9223372036854775808 : Int64)), .second, .val (.long y2), .second, .val (.long y3), .second, .unset, .unset, .unset, .unset, .unset, .unset, .unset, .unset, .unset, .unset, .unset, .unset, .unset, .unset, .unset, .unset] [(.int (xs &&& (8 : Int32)))]) (fun _ kx_ => XS.iand X0.here hx rfl (hb hby at_53) rfl kx_) ?_
        refine W.ifc X0 hx (hb hby at_54) (pc' := 63) (pc'' := 57) (by decide) (by decide) rfl (fun (c54 : (xs &&& (8 : Int32)) = (0 : Int32)) => ?_) (fun (c54 : ¬ (xs &&& (8 : Int32)) = (0 : Int32)) => ?_)
        · refine W.s1 (mkF m 65 #[.val (.long y1), .second, .val (.long y2), .second, .val (.long y3), .second, .val (.long y4), .second, .val (.int xs), .val (.long (-9223372036854775808 : Int64)), .second, .val (.long y2), .second, .val (.long y3), .second, .unset, .unset, .unset, .unset, .unset, .unset, .unset, .unset, .unset, .unset, .unset, .unset, .unset, .unset, .unset, .unset] [(.long y4)]) (fun _ kx_ => XS.lload X0.here hx rfl (hb hby at_63) rfl kx_) ?_
          refine W.s1 (mkF m 67 #[.val (.long y1), .second, .val (.long y2), .second, .val (.long y3), .second, .val (.long y4), .second, .val (.int xs), .val (.long (-9223372036854775808 : Int64)), .second, .val (.long y2), .second, .val (.long y3), .second, .val (.long y4), .second, .unset, .unset, .unset, .unset, .unset, .unset, .unset, .unset, .unset, .unset, .unset, .unset, .unset, .unset] []) (fun _ kx_ => XS.lstore X0.here hx rfl (hb hby at_65) rfl (l' := #[.val (.long y1), .second, .val (.long y2), .second, .val (.long y3), .second, .val (.long y4), .second, .val (.int xs), .val (.long (-9223372036854775808 : Int64)), .second, .val (.long y2), .second, .val (.long y3), .second, .val (.long y4), .second, .unset, .unset, .unset, .unset, .unset, .unset, .unset, .unset, .unset, .unset, .unset, .unset, .unset, .unset]) rfl kx_) ?_
          refine W.s1 (mkF m 69 #[.val (.long y1), .second, .val (.long y2), .second, .val (.long y3), .second, .val (.long y4), .second, .val (.int xs), .val (.long (-9223372036854775808 : Int64)), .second, .val (.long y2), .second, .val (.long y3), .second, .val (.long y4), .second, .unset, .unset, .unset, .unset, .unset, .unset, .unset, .unset, .unset, .unset, .unset, .unset, .unset, .unset] [(.int xs)]) (fun _ kx_ => XS.iload X0.here hx rfl (hb hby at_67) rfl kx_) ?_
          refine W.s1 (mkF m 71 #[.val (.long y1), .second, .val (.long y2), .second, .val (.long y3), .second, .val (.long y4), .second, .val (.int xs), .val (.long (-9223372036854775808 : Int64)), .second, .val (.long y2), .second, .val (.long y3), .second, .val (.long y4), .second, .unset, .unset, .unset, .unset, .unset, .unset, .unset, .unset, .unset, .unset, .unset, .unset, .unset, .unset] [(.int (32 : Int32)), (.int xs)]) (fun _ kx_ => XS.bipush X0.here hx rfl (hb hby at_69) kx_) ?_
          refine W.s1 (mkF m 72 #[.val (.long y1), .second, .val (.long y2), .second, .val (.long y3), .second, .val (.long y4), .second, .val (.int xs), .val (.long (-9223372036854775808 : Int64)), .second, .val (.long y2), .second, .val (.long y3), .second, .val (.long y4), .second, .unset, .unset, .unset, .unset, .unset, .unset, .unset, .unset, .unset, .unset, .unset, .unset, .unset, .unset] [(.int (xs &&& (32 : Int32)))]) (fun _ kx_ => XS.iand X0.here hx rfl (hb hby at_71) rfl kx_) ?_
          refine W.ifc X0 hx (hb hby at_72) (pc' := 83) (pc'' := 75) (by decide) (by decide) rfl (fun (c72 : (xs &&& (32 : Int32)) = (0 : Int32)) => ?_) (fun (c72 : ¬ (xs &&& (32 : Int32)) = (0 : Int32)) => ?_)
          · refine W.s1 (mkF m 85 #[.val (.long y1), .second, .val (.long y2), .second, .val (.long y3), .second, .val (.long y4), .second, .val (.int xs), .val (.long (-9223372036854775808 : Int64)), .second, .val (.long y2), .second, .val (.long y3), .second, .val (.long y4), .second, .unset, .unset, .unset, .unset, .unset, .unset, .unset, .unset, .unset, .unset, .unset, .unset, .unset, .unset] [(.int xs)]) (fun _ kx_ => XS.iload X0.here hx rfl (hb hby at_83) rfl kx_) ?_
            refine W.s1 (mkF m 87 #[.val (.long y1), .second, .val (.long y2), .second, .val (.long y3), .second, .val (.long y4), .second, .val (.int xs), .val (.long (-9223372036854775808 : Int64)), .second, .val (.long y2), .second, .val (.long y3), .second, .val (.long y4), .second, .unset, .unset, .unset, .unset, .unset, .unset, .unset, .unset, .unset, .unset, .unset, .unset, .unset, .unset] [(.int (64 : Int32)), (.int xs)]) (fun _ kx_ => XS.bipush X0.here hx rfl (hb hby at_85) kx_) ?_
            refine W.s1 (mkF m 88 #[.val (.long y1), .second, .val (.long y2), .second, .val (.long y3), .second, .val (.long y4), .second, .val (.int xs), .val (.long (-9223372036854775808 : Int64)), .second, .val (.long y2), .second, .val (.long y3), .second, .val (.long y4), .second, .unset, .unset, .unset, .unset, .unset, .unset, .unset, .unset, .unset, .unset, .unset, .unset, .unset, .unset] [(.int (xs &&& (64 : Int32)))]) (fun _ kx_ => XS.iand X0.here hx rfl (hb hby at_87) rfl kx_) ?_
            refine W.ifc X0 hx (hb hby at_88) (pc' := 99) (pc'' := 91) (by decide) (by decide) rfl (fun (c88 : (xs &&& (64 : Int32)) = (0 : Int32)) => ?_) (fun (c88 : ¬ (xs &&& (64 : Int32)) = (0 : Int32)) => ?_)
            · refine W.gets X0 hx hZ hown (host := "") (Or.inl (hw _ (List.mem_of_getElem? (i := 2) rfl))) Via.refl e0 (Sta.ext O0.2 S_VALID) (hb hby at_99) (pc' := 102) rfl (fun T191 X191 e191 => ?_)
              refine W.s1 (mkF m 104 #[.val (.long y1), .second, .val (.long y2), .second, .val (.long y3), .second, .val (.long y4), .second, .val (.int xs), .val (.long (-9223372036854775808 : Int64)), .second, .val (.long y2), .second, .val (.long y3), .second, .val (.long y4), .second, .val (.ref aV), .unset, .unset, .unset, .unset, .unset, .unset, .unset, .unset, .unset, .unset, .unset, .unset, .unset] []) (fun _ kx_ => XS.astore X191.here hx rfl (hb hby at_102) rfl rfl (l' := #[.val (.long y1), .second, .val (.long y2), .second, .val (.long y3), .second, .val (.long y4), .second, .val (.int xs), .val (.long (-9223372036854775808 : Int64)), .second, .val (.long y2), .second, .val (.long y3), .second, .val (.long y4), .second, .val (.ref aV), .unset, .unset, .unset, .unset, .unset, .unset, .unset, .unset, .unset, .unset, .unset, .unset, .unset]) rfl kx_) ?_
              exact J104 _ _ _ _ _ _ X191 e191 E_VALID
            · refine W.gets X0 hx hZ hown (host := "") (Or.inl (hw _ (List.mem_of_getElem? (i := 89) rfl))) Via.refl e0 (Sta.ext O0.2 S_UNDECIDED) (hb hby at_91) (pc' := 94) rfl (fun T192 X192 e192 => ?_)
              refine W.s1 (mkF m 96 #[.val (.long y1), .second, .val (.long y2), .second, .val (.long y3), .second, .val (.long y4), .second, .val (.int xs), .val (.long (-9223372036854775808 : Int64)), .second, .val (.long y2), .second, .val (.long y3), .second, .val (.long y4), .second, .val (.ref aU), .unset, .unset, .unset, .unset, .unset, .unset, .unset, .unset, .unset, .unset, .unset, .unset, .unset] []) (fun _ kx_ => XS.astore X192.here hx rfl (hb hby at_94) rfl rfl (l' := #[.val (.long y1), .second, .val (.long y2), .second, .val (.long y3), .second, .val (.long y4), .second, .val (.int xs), .val (.long (-9223372036854775808 : Int64)), .second, .val (.long y2), .second, .val (.long y3), .second, .val (.long y4), .second, .val (.ref aU), .unset, .unset, .unset, .unset, .unset, .unset, .unset, .unset, .unset, .unset, .unset, .unset, .unset]) rfl kx_) ?_
              refine W.s1 (mkF m 104 #[.val (.long y1), .second, .val (.long y2), .second, .val (.long y3), .second, .val (.long y4), .second, .val (.int xs), .val (.long (-9223372036854775808 : Int64)), .second, .val (.long y2), .second, .val (.long y3), .second, .val (.long y4), .second, .val (.ref aU), .unset, .unset, .unset, .unset, .unset, .unset, .unset, .unset, .unset, .unset, .unset, .unset, .unset] []) (fun _ kx_ => XS.goto X192.here hx rfl (pc0 := 96) (pc' := 104) rfl (hb hby at_96) (by decide) (by decide) kx_) ?_
              exact J104 _ _ _ _ _ _ X192 e192 E_UNDECIDED
          · refine W.gets X0 hx hZ hown (host := "") (Or.inl (hw _ (List.mem_of_getElem? (i := 87) rfl))) Via.refl e0 (Sta.ext O0.2 S_INVALID) (hb hby at_75) (pc' := 78) rfl (fun T193 X193 e193 => ?_)
            refine W.s1 (mkF m 80 #[.val (.long y1), .second, .val (.long y2), .second, .val (.long y3), .second, .val (.long y4), .second, .val (.int xs), .val (.long (-9223372036854775808 : Int64)), .second, .val (.long y2), .second, .val (.long y3), .second, .val (.long y4), .second, .val (.ref aI), .unset, .unset, .unset, .unset, .unset, .unset, .unset, .unset, .unset, .unset, .unset, .unset, .unset] []) (fun _ kx_ => XS.astore X193.here hx rfl (hb hby at_78) rfl rfl (l' := #[.val (.long y1), .second, .val (.long y2), .second, .val (.long y3), .second, .val (.long y4), .second, .val (.int xs), .val (.long (-9223372036854775808 : Int64)), .second, .val (.long y2), .second, .val (.long y3), .second, .val (.long y4), .second, .val (.ref aI), .unset, .unset, .unset, .unset, .unset, .unset, .unset, .unset, .unset, .unset, .unset, .unset, .unset]) rfl kx_) ?_
            refine W.s1 (mkF m 104 #[.val (.long y1), .second, .val (.long y2), .second, .val (.long y3), .second, .val (.long y4), .second, .val (.int xs), .val (.long (-9223372036854775808 : Int64)), .second, .val (.long y2), .second, .val (.long y3), .second, .val (.long y4), .second, .val (.ref aI), .unset, .unset, .unset, .unset, .unset, .unset, .unset, .unset, .unset, .unset, .unset, .unset, .unset] []) (fun _ kx_ => XS.goto X193.here hx rfl (pc0 := 80) (pc' := 104) rfl (hb hby at_80) (by decide) (by decide) kx_) ?_
            exact J104 _ _ _ _ _ _ X193 e193 E_INVALID
        · refine W.s1 (mkF m 60 #[.val (.long y1), .second, .val (.long y2), .second, .val (.long y3), .second, .val (.long y4), .second, .val (.int xs), .val (.long (-9223372036854775808 : Int64)), .second, .val (.long y2), .second, .val (.long y3), .second, .unset, .unset, .unset, .unset, .unset, .unset, .unset, .unset, .unset, .unset, .unset, .unset, .unset, .unset, .unset, .unset] [(.long (9223372036854775807 : Int64))]) (fun _ kx_ => X0.ldc2Long hx hown (mvT hZ (hw _ (List.mem_of_getElem? (i := 1) rfl))) (g := (mkF m 57 #[.val (.long y1), .second, .val (.long y2), .second, .val (.long y3), .second, .val (.long y4), .second, .val (.int xs), .val (.long (-9223372036854775808 : Int64)), .second, .val (.long y2), .second, .val (.long y3), .second, .unset, .unset, .unset, .unset, .unset, .unset, .unset, .unset, .unset, .unset, .unset, .unset, .unset, .unset, .unset, .unset] [])) rfl (hb hby at_57) _ kx_) ?_
          refine W.s1 (mkF m 65 #[.val (.long y1), .second, .val (.long y2), .second, .val (.long y3), .second, .val (.long y4), .second, .val (.int xs), .val (.long (-9223372036854775808 : Int64)), .second, .val (.long y2), .second, .val (.long y3), .second, .unset, .unset, .unset, .unset, .unset, .unset, .unset, .unset, .unset, .unset, .unset, .unset, .unset, .unset, .unset, .unset] [(.long (9223372036854775807 : Int64))]) (fun _ kx_ => XS.goto X0.here hx rfl (pc0 := 60) (pc' := 65) rfl (hb hby at_60) (by decide) (by decide) kx_) ?_
          refine W.s1 (mkF m 67 #[.val (.long y1), .second, .val (.long y2), .second, .val (.long y3), .second, .val (.long y4), .second, .val (.int xs), .val (.long (-9223372036854775808 : Int64)), .second, .val (.long y2), .second, .val (.long y3), .second, .val (.long (9223372036854775807 : Int64)), .second, .unset, .unset, .unset, .unset, .unset, .unset, .unset, .unset, .unset, .unset, .unset, .unset, .unset, .unset] []) (fun _ kx_ => XS.lstore X0.here hx rfl (hb hby at_65) rfl (l' := #[.val (.long y1), .second, .val (.long y2), .second, .val (.long y3), .second, .val (.long y4), .second, .val (.int xs), .val (.long (-9223372036854775808 : Int64)), .second, .val (.long y2), .second, .val (.long y3), .second, .val (.long (9223372036854775807 : Int64)), .second, .unset, .unset, .unset, .unset, .unset, .unset, .unset, .unset, .unset, .unset, .unset, .unset, .unset, .unset]) rfl kx_) ?_
          refine W.s1 (mkF m 69 #[.val (.long y1), .second, .val (.long y2), .second, .val (.long y3), .second, .val (.long y4), .second, .val (.int xs), .val (.long (-9223372036854775808 : Int64)), .second, .val (.long y2), .second, .val (.long y3), .second, .val (.long (9223372036854775807 : Int64)), .second, .unset, .unset, .unset, .unset, .unset, .unset, .unset, .unset, .unset, .unset, .unset, .unset, .unset, .unset] [(.int xs)]) (fun _ kx_ => XS.iload X0.here hx rfl (hb hby at_67) rfl kx_) ?_
          refine W.s1 (mkF m 71 #[.val (.long y1), .second, .val (.long y2), .second, .val (.long y3), .second, .val (.long y4), .second, .val (.int xs), .val (.long (-9223372036854775808 : Int64)), .second, .val (.long y2), .second, .val (.long y3), .second, .val (.long (9223372036854775807 : Int64)), .second, .unset, .unset, .unset, .unset, .unset, .unset, .unset, .unset, .unset, .unset, .unset, .unset, .unset, .unset] [(.int (32 : Int32)), (.int xs)]) (fun _ kx_ => XS.bipush X0.here hx rfl (hb hby at_69) kx_) ?_
          refine W.s1 (mkF m 72 #[.val (.long y1), .second, .val (.long y2), .second, .val (.long y3), .second, .val (.long y4), .second, .val (.int xs), .val (.long (-9223372036854775808 : Int64)), .second, .val (.long y2), .second, .val (.long y3), .second, .val (.long (9223372036854775807 : Int64)), .second, .unset, .unset, .unset, .unset, .unset, .unset, .unset, .unset, .unset, .unset, .unset, .unset, .unset, .unset] [(.int (xs &&& (32 : Int32)))]) (fun _ kx_ => XS.iand X0.here hx rfl (hb hby at_71) rfl kx_) ?_
          refine W.ifc X0 hx (hb hby at_72) (pc' := 83) (pc'' := 75) (by decide) (by decide) rfl (fun (c72 : (xs &&& (32 : Int32)) = (0 : Int32)) => ?_) (fun (c72 : ¬ (xs &&& (32 : Int32)) = (0 : Int32)) => ?_)
          · refine W.s1 (mkF m 85 #[.val (.long y1), .second, .val (.long y2), .second, .val (.long y3), .second, .val (.long y4), .second, .val (.int xs), .val (.long (-9223372036854775808 : Int64)), .second, .val (.long y2), .second, .val (.long y3), .second, .val (.long (9223372036854775807 : Int64)), .second, .unset, .unset, .unset, .unset, .unset, .unset, .unset, .unset, .unset, .unset, .unset, .unset, .unset, .unset] [(.int xs)]) (fun _ kx_ => XS.iload X0.here hx rfl (hb hby at_83) rfl kx_) ?_
            refine W.s1 (mkF m 87 #[.val (.long y1), .second, .val (.long y2), .second, .val (.long y3), .second, .val (.long y4), .second, .val (.int xs), .val (.long (-9223372036854775808 : Int64)), .second, .val (.long y2), .second, .val (.long y3), .second, .val (.long (9223372036854775807 : Int64)), .second, .unset, .unset, .unset, .unset, .unset, .unset, .unset, .unset, .unset, .unset, .unset, .unset, .unset, .unset] [(.int (64 : Int32)), (.int xs)]) (fun _ kx_ => XS.bipush X0.here hx rfl (hb hby at_85) kx_) ?_
            refine W.s1 (mkF m 88 #[.val (.long y1), .second, .val (.long y2), .second, .val (.long y3), .second, .val (.long y4), .second, .val (.int xs), .val (.long (-9223372036854775808 : Int64)), .second, .val (.long y2), .second, .val (.long y3), .second, .val (.long (9223372036854775807 : Int64)), .second, .unset, .unset, .unset, .unset, .unset, .unset, .unset, .unset, .unset, .unset, .unset, .unset, .unset, .unset] [(.int (xs &&& (64 : Int32)))]) (fun _ kx_ => XS.iand X0.here hx rfl (hb hby at_87) rfl kx_) ?_
            refine W.ifc X0 hx (hb hby at_88) (pc' := 99) (pc'' := 91) (by decide) (by decide) rfl (fun (c88 : (xs &&& (64 : Int32)) = (0 : Int32)) => ?_) (fun (c88 : ¬ (xs &&& (64 : Int32)) = (0 : Int32)) => ?_)
            · refine W.gets X0 hx hZ hown (host := "") (Or.inl (hw _ (List.mem_of_getElem? (i := 2) rfl))) Via.refl e0 (Sta.ext O0.2 S_VALID) (hb hby at_99) (pc' := 102) rfl (fun T194 X194 e194 => ?_)
              refine W.s1 (mkF m 104 #[.val (.long y1), .second, .val (.long y2), .second, .val (.long y3), .second, .val (.long y4), .second, .val (.int xs), .val (.long (-9223372036854775808 : Int64)), .second, .val (.long y2), .second, .val (.long y3), .second, .val (.long (9223372036854775807 : Int64)), .second, .val (.ref aV), .unset, .unset, .unset, .unset, .unset, .unset, .unset, .unset, .unset, .unset, .unset, .unset, .unset] []) (fun _ kx_ => XS.astore X194.here hx rfl (hb hby at_102) rfl rfl (l' := #[.val (.long y1), .second, .val (.long y2), .second, .val (.long y3), .second, .val (.long y4), .second, .val (.int xs), .val (.long (-9223372036854775808 : Int64)), .second, .val (.long y2), .second, .val (.long y3), .second, .val (.long (9223372036854775807 : Int64)), .second, .val (.ref aV), .unset, .unset, .unset, .unset, .unset, .unset, .unset, .unset, .unset, .unset, .unset, .unset, .unset]) rfl kx_) ?_
              exact J104 _ _ _ _ _ _ X194 e194 E_VALID
            · refine W.gets X0 hx hZ hown (host := "") (Or.inl (hw _ (List.mem_of_getElem? (i := 89) rfl))) Via.refl e0 (Sta.ext O0.2 S_UNDECIDED) (hb hby at_91) (pc' := 94) rfl (fun T195 X195 e195 => ?_)
              refine W.s1 (mkF m 96 #[.val (.long y1), .second, .val (.long y2), .second, .val (.long y3), .second, .val (.long y4), .second, .val (.int xs), .val (.long (-9223372036854775808 : Int64)), .second, .val (.long y2), .second, .val (.long y3), .second, .val (.long (9223372036854775807 : Int64)), .second, .val (.ref aU), .unset, .unset, .unset, .unset, .unset, .unset, .unset, .unset, .unset, .unset, .unset, .unset, .unset] []) (fun _ kx_ => XS.astore X195.here hx rfl (hb hby at_94) rfl rfl (l' := #[.val (.long y1), .second, .val (.long y2), .second, .val (.long y3), .second, .val (.long y4), .second, .val (.int xs), .val (.long (-9223372036854775808 : Int64)), .second, .val (.long y2), .second, .val (.long y3), .second, .val (.long (9223372036854775807 : Int64)), .second, .val (.ref aU), .unset, .unset, .unset, .unset, .unset, .unset, .unset, .unset, .unset, .unset, .unset, .unset, .unset]) rfl kx_) ?_
              refine W.s1 (mkF m 104 #[.val (.long y1), .second, .val (.long y2), .second, .val (.long y3), .second, .val (.long y4), .second, .val (.int xs), .val (.long (-9223372036854775808 : Int64)), .second, .val (.long y2), .second, .val (.long y3), .second, .val (.long (9223372036854775807 : Int64)), .second, .val (.ref aU), .unset, .unset, .unset, .unset, .unset, .unset, .unset, .unset, .unset, .unset, .unset, .unset, .unset] []) (fun _ kx_ => XS.goto X195.here hx rfl (pc0 := 96) (pc' := 104) rfl (hb hby at_96) (by decide) (by decide) kx_) ?_
              exact J104 _ _ _ _ _ _ X195 e195 E_UNDECIDED
          · refine W.gets X0 hx hZ hown (host := "") (Or.inl (hw _ (List.mem_of_getElem? (i := 87) rfl))) Via.refl e0 (Sta.ext O0.2 S_INVALID) (hb hby at_75) (pc' := 78) rfl (fun T196 X196 e196 => ?_)
            refine W.s1 (mkF m 80 #[.val (.long y1), .second, .val (.long y2), .second, .val (.long y3), .second, .val (.long y4), .second, .val (.int xs), .val (.long (-9223372036854775808 : Int64)), .second, .val (.long y2), .second, .val (.long y3), .second, .val (.long (9223372036854775807 : Int64)), .second, .val (.ref aI), .unset, .unset, .unset, .unset, .unset, .unset, .unset, .unset, .unset, .unset, .unset, .unset, .unset] []) (fun _ kx_ => XS.astore X196.here hx rfl (hb hby at_78) rfl rfl (l' := #[.val (.long y1), .second, .val (.long y2), .second, .val (.long y3), .second, .val (.long y4), .second, .val (.int xs), .val (.long (-9223372036854775808 : Int64)), .second, .val (.long y2), .second, .val (.long y3), .second, .val (.long (9223372036854775807 : Int64)), .second, .val (.ref aI), .unset, .unset, .unset, .unset, .unset, .unset, .unset, .unset, .unset, .unset, .unset, .unset, .unset]) rfl kx_) ?_
            refine W.s1 (mkF m 104 #[.val (.long y1), .second, .val (.long y2), .second, .val (.long y3), .second, .val (.long y4), .second, .val (.int xs), .val (.long (-9223372036854775808 : Int64)), .second, .val (.long y2), .second, .val (.long y3), .second, .val (.long (9223372036854775807 : Int64)), .second, .val (.ref aI), .unset, .unset, .unset, .unset, .unset, .unset, .unset, .unset, .unset, .unset, .unset, .unset, .unset] []) (fun _ kx_ => XS.goto X196.here hx rfl (pc0 := 80) (pc' := 104) rfl (hb hby at_80) (by decide) (by decide) kx_) ?_
            exact J104 _ _ _ _ _ _ X196 e196 E_INVALID
      · refine W.s1 (mkF m 42 #[.val (.long y1), .second, .val (.long y2), .second, .val (.long y3), .second, .val (.long y4), .second, .val (.int xs), .val (.long (-9223372036854775808 : Int64)), .second, .val (.long y2), .second, .unset, .unset, .unset, .unset, .unset, .unset, .unset, .unset, .unset, .unset, .unset, .unset, .unset, .unset, .unset, .unset, .unset, .unset] [(.long (-9223372036854775808 : Int64))]) (fun _ kx_ => X0.ldc2Long hx hown (mvT hZ (hw _ (List.mem_of_getElem? (i := 0) rfl))) (g := (mkF m 39 #[.val (.long y1), .second, .val (.long y2), .second, .val (.long y3), .second, .val (.long y4), .second, .val (.int xs), .val (.long (-9223372036854775808 : Int64)), .second, .val (.long y2), .second, .unset, .unset, .unset, .unset, .unset, .unset, .unset, .unset, .unset, .unset, .unset, .unset, .unset, .unset, .unset, .unset, .unset, .unset] [])) rfl (hb hby at_39) _ kx_) ?_
        refine W.s1 (mkF m 47 #[.val (.long y1), .second, .val (.long y2), .second, .val (.long y3), .second, .val (.long y4), .second, .val (.int xs), .val (.long (-9223372036854775808 : Int64)), .second, .val (.long y2), .second, .unset, .unset, .unset, .unset, .unset, .unset, .unset, .unset, .unset, .unset, .unset, .unset, .unset, .unset, .unset, .unset, .unset, .unset] [(.long (-9223372036854775808 : Int64))]) (fun _ kx_ => XS.goto X0.here hx rfl (pc0 := 42) (pc' := 47) rfl (hb hby at_42) (by decide) (by decide) kx_) ?_
        refine W.s1 (mkF m 49 #[.val (.long y1), .second, .val (.long y2), .second, .val (.long y3), .second, .val (.long y4), .second, .val (.int xs), .val (.long (-9223372036854775808 : Int64)), .second, .val (.long y2), .second, .val (.long (-9223372036854775808 : Int64)), .second, .unset, .unset, .unset, .unset, .unset, .unset, .unset, .unset, .unset, .unset, .unset, .unset, .unset, .unset, .unset, .unset] []) (fun _ kx_ => XS.lstore X0.here hx rfl (hb hby at_47) rfl (l' := #[.val (.long y1), .second, .val (.long y2), .second, .val (.long y3), .second, .val (.long y4), .second, .val (.int xs), .val (.long (-9223372036854775808 : Int64)), .second, .val (.long y2), .second, .val (.long (-9223372036854775808 : Int64)), .second, .unset, .unset, .unset, .unset, .unset, .unset, .unset, .unset, .unset, .unset, .unset, .unset, .unset, .unset, .unset, .unset]) rfl kx_) ?_
        refine W.s1 (mkF m 51 #[.val (.long y1), .second, .val (.long y2), .second, .val (.long y3), .second, .val (.long y4), .second, .val (.int xs), .val (.long (-9223372036854775808 : Int64)), .second, .val (.long y2), .second, .val (.long (-9223372036854775808 : Int64)), .second, .unset, .unset, .unset, .unset, .unset, .unset, .unset, .unset, .unset, .unset, .unset, .unset, .unset, .unset, .unset, .unset] [(.int xs)]) (fun _ kx_ => XS.iload X0.here hx rfl (hb hby at_49) rfl kx_) ?_
        refine W.s1 (mkF m 53 #[.val (.long y1), .second, .val (.long y2), .second, .val (.long y3), .second, .val (.long y4), .second, .val (.int xs), .val (.long (-9223372036854775808 : Int64)), .second, .val (.long y2), .second, .val (.long (-9223372036854775808 : Int64)), .second, .unset, .unset, .unset, .unset, .unset, .unset, .unset, .unset, .unset, .unset, .unset, .unset, .unset, .unset, .unset, .unset] [(.int (8 : Int32)), (.int xs)]) (fun _ kx_ => XS.bipush X0.here hx rfl (hb hby at_51) kx_) ?_
        refine W.s1 (mkF m 54 #[.val (.long y1), .second, .val (.long y2), .second, .val (.long y3), .second, .val (.long y4), .second, .val (.int xs), .val (.long (-9223372036854775808 : Int64)), .second, .val (.long y2), .second, .val (.long (-9223372036854775808 : Int64)), .second, .unset, .unset, .unset, .unset, .unset, .unset, .unset, .unset, .unset, .unset, .unset, .unset, .unset, .unset, .unset, .unset] [(.int (xs &&& (8 : Int32)))]) (fun _ kx_ => XS.iand X0.here hx rfl (hb hby at_53) rfl kx_) ?_
        refine W.ifc X0 hx (hb hby at_54) (pc' := 63) (pc'' := 57) (by decide) (by decide) rfl (fun (c54 : (xs &&& (8 : Int32)) = (0 : Int32)) => ?_) (fun (c54 : ¬ (xs &&& (8 : Int32)) = (0 : Int32)) => ?_)
        · refine W.s1 (mkF m 65 #[.val (.long y1), .second, .val (.long y2), .second, .val (.long y3), .second, .val (.long y4), .second, .val (.int xs), .val (.long (-9223372036854775808 : Int64)), .second, .val (.long y2), .second, .val (.long (-9223372036854775808 : Int64)), .second, .unset, .unset, .unset, .unset, .unset, .unset, .unset, .unset, .unset, .unset, .unset, .unset, .unset, .unset, .unset, .unset] [(.long y4)]) (fun _ kx_ => XS.lload X0.here hx rfl (hb hby at_63) rfl kx_) ?_
          refine W.s1 (mkF m 67 #[.val (.long y1), .second, .val (.long y2), .second, .val (.long y3), .second, .val (.long y4), .second, .val (.int xs), .val (.long (-9223372036854775808 : Int64)), .second, .val (.long y2), .second, .val (.long (-9223372036854775808 : Int64)), .second, .val (.long y4), .second, .unset, .unset, .unset, .unset, .unset, .unset, .unset, .unset, .unset, .unset, .unset, .unset, .unset, .unset] []) (fun _ kx_ => XS.lstore X0.here hx rfl (hb hby at_65) rfl (l' := #[.val (.long y1), .second, .val (.long y2), .second, .val (.long y3), .second, .val (.long y4), .second, .val (.int xs), .val (.long (-9223372036854775808 : Int64)), .second, .val (.long y2), .second, .val (.long (-9223372036854775808 : Int64)), .second, .val (.long y4), .second, .unset, .unset, .unset, .unset, .unset, .unset, .unset, .unset, .unset, .unset, .unset, .unset, .unset, .unset]) rfl kx_) ?_
          refine W.s1 (mkF m 69 #[.val (.long y1), .second, .val (.long y2), .second, .val (.long y3), .second, .val (.long y4), .second, .val (.int xs), .val (.long (-9223372036854775808 : Int64)), .second, .val (.long y2), .second, .val (.long (-9223372036854775808 : Int64)), .second, .val (.long y4), .second, .unset, .unset, .unset, .unset, .unset, .unset, .unset, .unset, .unset, .unset, .unset, .unset, .unset, .unset] [(.int xs)]) (fun _ kx_ => XS.iload X0.here hx rfl (hb hby at_67) rfl kx_) ?_
          refine W.s1 (mkF m 71 #[.val (.long y1), .second, .val (.long y2), .second, .val (.long y3), .second, .val (.long y4), .second, .val (.int xs), .val (.long (-9223372036854775808 : Int64)), .second, .val (.long y2), .second, .val (.long (-9223372036854775808 : Int64)), .second, .val (.long y4), .second, .unset, .unset, .unset, .unset, .unset, .unset, .unset, .unset, .unset, .unset, .unset, .unset, .unset, .unset] [(.int (32 : Int32)), (.int xs)]) (fun _ kx_ => XS.bipush X0.here hx rfl (hb hby at_69) kx_) ?_
          refine W.s1 (mkF m 72 #[.val (.long y1), .second, .val (.long y2), .second, .val (.long y3), .second, .val (.long y4), .second, .val (.int xs), .val (.long (-9223372036854775808 : Int64)), .second, .val (.long y2), .second, .val (.long (-9223372036854775808 : Int64)), .second, .val (.long y4), .second, .unset, .unset, .unset, .unset, .unset, .unset, .unset, .unset, .unset, .unset, .unset, .unset, .unset, .unset] [(.int (xs &&& (32 : Int32)))]) (fun _ kx_ => XS.iand X0.here hx rfl (hb hby at_71) rfl kx_) ?_
          refine W.ifc X0 hx (hb hby at_72) (pc' := 83) (pc'' := 75) (by decide) (by decide) rfl (fun (c72 : (xs &&& (32 : Int32)) = (0 : Int32)) => ?_) (fun (c72 : ¬ (xs &&& (32 : Int32)) = (0 : Int32)) => ?_)
          · refine W.s1 (mkF m 85 #[.val (.long y1), .second, .val (.long y2), .second, .val (.long y3), .second, .val (.long y4), .second, .val (.int xs), .val (.long (-9223372036854775808 : Int64)), .second, .val (.long y2), .second, .val (.long (-9223372036854775808 : Int64)), .second, .val (.long y4), .second, .unset, .unset, .unset, .unset, .unset, .unset, .unset, .unset, .unset, .unset, .unset, .unset, .unset, .unset] [(.int xs)]) (fun _ kx_ => XS.iload X0.here hx rfl (hb hby at_83) rfl kx_) ?_
            refine W.s1 (mkF m 87 #[.val (.long y1), .second, .val (.long y2), .second, .val (.long y3), .second, .val (.long y4), .second, .val (.int xs), .val (.long (-9223372036854775808 : Int64)), .second, .val (.long y2), .second, .val (.long (-9223372036854775808 : Int64)), .second, .val (.long y4), .second, .unset, .unset, .unset, .unset, .unset, .unset, .unset, .unset, .unset, .unset, .unset, .unset, .unset, .unset] [(.int (64 : Int32)), (.int xs)]) (fun _ kx_ => XS.bipush X0.here hx rfl (hb hby at_85) kx_) ?_
            refine W.s1 (mkF m 88 #[.val (.long y1), .second, .val (.long y2), .second, .val (.long y3), .second, .val (.long y4), .second, .val (.int xs), .val (.long (-9223372036854775808 : Int64)), .second, .val (.long y2), .second, .val (.long (-9223372036854775808 : Int64)), .second, .val (.long y4), .second, .unset, .unset, .unset, .unset, .unset, .unset, .unset, .unset, .unset, .unset, .unset, .unset, .unset, .unset] [(.int (xs &&& (64 : Int32)))]) (fun _ kx_ => XS.iand X0.here hx rfl (hb hby at_87) rfl kx_) ?_
            refine W.ifc X0 hx (hb hby at_88) (pc' := 99) (pc'' := 91) (by decide) (by decide) rfl (fun (c88 : (xs &&& (64 : Int32)) = (0 : Int32)) => ?_) (fun (c88 : ¬ (xs &&& (64 : Int32)) = (0 : Int32)) => ?_)
            · refine W.gets X0 hx hZ hown (host := "") (Or.inl (hw _ (List.mem_of_getElem? (i := 2) rfl))) Via.refl e0 (Sta.ext O0.2 S_VALID) (hb hby at_99) (pc' := 102) rfl (fun T197 X197 e197 => ?_)
              refine W.s1 (mkF m 104 #[.val (.long y1), .second, .val (.long y2), .second, .val (.long y3), .second, .val (.long y4), .second, .val (.int xs), .val (.long (-9223372036854775808 : Int64)), .second, .val (.long y2), .second, .val (.long (-9223372036854775808 : Int64)), .second, .val (.long y4), .second, .val (.ref aV), .unset, .unset, .unset, .unset, .unset, .unset, .unset, .unset, .unset, .unset, .unset, .unset, .unset] []) (fun _ kx_ => XS.astore X197.here hx rfl (hb hby at_102) rfl rfl (l' := #[.val (.long y1), .second, .val (.long y2), .second, .val (.long y3), .second, .val (.long y4), .second, .val (.int xs), .val (.long (-9223372036854775808 : Int64)), .second, .val (.long y2), .second, .val (.long (-9223372036854775808 : Int64)), .second, .val (.long y4), .second, .val (.ref aV), .unset, .unset, .unset, .unset, .unset, .unset, .unset, .unset, .unset, .unset, .unset, .unset, .unset]) rfl kx_) ?_
              exact J104 _ _ _ _ _ _ X197 e197 E_VALID
            · refine W.gets X0 hx hZ hown (host := "") (Or.inl (hw _ (List.mem_of_getElem? (i := 89) rfl))) Via.refl e0 (Sta.ext O0.2 S_UNDECIDED) (hb hby at_91) (pc' := 94) rfl (fun T198 X198 e198 => ?_)
              refine W.s1 (mkF m 96 #[.val (.long y1), .second, .val (.long y2), .second, .val (.long y3), .second, .val (.long y4), .second, .val (.int xs), .val (.long (-9223372036854775808 : Int64)), .second, .val (.long y2), .second, .val (.long (-9223372036854775808 : Int64)), .second, .val (.long y4), .second, .val (.ref aU), .unset, .unset, .unset, .unset, .unset, .unset, .unset, .unset, .unset, .unset, .unset, .unset, .unset] []) (fun _ kx_ => XS.astore X198.here hx rfl (hb hby at_94) rfl rfl (l' := #[.val (.long y1), .second, .val (.long y2), .second, .val (.long y3), .second, .val (.long y4), .second, .val (.int xs), .val (.long (-9223372036854775808 : Int64)), .second, .val (.long y2), .second, .val (.long (-9223372036854775808 : Int64)), .second, .val (.long y4), .second, .val (.ref aU), .unset, .unset, .unset, .unset, .unset, .unset, .unset, .unset, .unset, .unset, .unset, .unset, .unset]) rfl kx_) ?_
              refine W.s1 (mkF m 104 #[.val (.long y1), .second, .val (.long y2), .second, .val (.long y3), .second, .val (.long y4), .second, .val (.int xs), .val (.long (-9223372036854775808 : Int64)), .second, .val (.long y2), .second, .val (.long (-9223372036854775808 : Int64)), .second, .val (.long y4), .second, .val (.ref aU), .unset, .unset, .unset, .unset, .unset, .unset, .unset, .unset, .unset, .unset, .unset, .unset, .unset] []) (fun _ kx_ => XS.goto X198.here hx rfl (pc0 := 96) (pc' := 104) rfl (hb hby at_96) (by decide) (by decide) kx_) ?_
              exact J104 _ _ _ _ _ _ X198 e198 E_UNDECIDED
          · refine W.gets X0 hx hZ hown (host := "") (Or.inl (hw _ (List.mem_of_getElem? (i := 87) rfl))) Via.refl e0 (Sta.ext O0.2 S_INVALID) (hb hby at_75) (pc' := 78) rfl (fun T199 X199 e199 => ?_)
            refine W.s1 (mkF m 80 #[.val (.long y1), .second, .val (.long y2), .second, .val (.long y3), .second, .val (.long y4), .second, .val (.int xs), .val (.long (-9223372036854775808 : Int64)), .second, .val (.long y2), .second, .val (.long (-9223372036854775808 : Int64)), .second, .val (.long y4), .second, .val (.ref aI), .unset, .unset, .unset, .unset, .unset, .unset, .unset, .unset, .unset, .unset, .unset, .unset, .unset] []) (fun _ kx_ => XS.astore X199.here hx rfl (hb hby at_78) rfl rfl (l' := #[.val (.long y1), .second, .val (.long y2), .second, .val (.long y3), .second, .val (.long y4), .second, .val (.int xs), .val (.long (-9223372036854775808 : Int64)), .second, .val (.long y2), .second, .val (.long (-9223372036854775808 : Int64)), .second, .val (.long y4), .second, .val (.ref aI), .unset, .unset, .unset, .unset, .unset, .unset, .unset, .unset, .unset, .unset, .unset, .unset, .unset]) rfl kx_) ?_
            refine W.s1 (mkF m 104 #[.val (.long y1), .second, .val (.long y2), .second, .val (.long y3), .second, .val (.long y4), .second, .val (.int xs), .val (.long (-9223372036854775808 : Int64)), .second, .val (.long y2), .second, .val (.long (-9223372036854775808 : Int64)), .second, .val (.long y4), .second, .val (.ref aI), .unset, .unset, .unset, .unset, .unset, .unset, .unset, .unset, .unset, .unset, .unset, .unset, .unset] []) (fun _ kx_ => XS.goto X199.here hx rfl (pc0 := 80) (pc' := 104) rfl (hb hby at_80) (by decide) (by decide) kx_) ?_
            exact J104 _ _ _ _ _ _ X199 e199 E_INVALID
        · refine W.s1 (mkF m 60 #[.val (.long y1), .second, .val (.long y2), .second, .val (.long y3), .second, .val (.long y4), .second, .val (.int xs), .val (.long (-9223372036854775808 : Int64)), .second, .val (.long y2), .second, .val (.long (-9223372036854775808 : Int64)), .second, .unset, .unset, .unset, .unset, .unset, .unset, .unset, .unset, .unset, .unset, .unset, .unset, .unset, .unset, .unset, .unset] [(.long (9223372036854775807 : Int64))]) (fun _ kx_ => X0.ldc2Long hx hown (mvT hZ (hw _ (List.mem_of_getElem? (i := 1) rfl))) (g := (mkF m 57 #[.val (.long y1), .second, .val (.long y2), .second, .val (.long y3), .second, .val (.long y4), .second, .val (.int xs), .val (.long (-9223372036854775808 : Int64)), .second, .val (.long y2), .second, .val (.long (-9223372036854775808 : Int64)), .second, .unset, .unset, .unset, .unset, .unset, .unset, .unset, .unset, .unset, .unset, .unset, .unset, .unset, .unset, .unset, .unset] [])) rfl (hb hby at_57) _ kx_) ?_
          refine W.s1 (mkF m 65 #[.val (.long y1), .second, .val (.long y2), .second, .val (.long y3), .second, .val (.long y4), .second, .val (.int xs), .val (.long (-9223372036854775808 : Int64)), .second, .val (.long y2), .second, .val (.long (-9223372036854775808 : Int64)), .second, .unset, .unset, .unset, .unset, .unset, .unset, .unset, .unset, .unset, .unset, .unset, .unset, .unset, .unset, .unset, .unset] [(.long (9223372036854775807 : Int64))]) (fun _ kx_ => XS.goto X0.here hx rfl (pc0 := 60) (pc' := 65) rfl (hb hby at_60) (by decide) (by decide) kx_) ?_
          refine W.s1 (mkF m 67 #[.val (.long y1), .second, .val (.long y2), .second, .val (.long y3), .second, .val (.long y4), .second, .val (.int xs), .val (.long (-9223372036854775808 : Int64)), .second, .val (.long y2), .second, .val (.long (-9223372036854775808 : Int64)), .second, .val (.long (9223372036854775807 : Int64)), .second, .unset, .unset, .unset, .unset, .unset, .unset, .unset, .unset, .unset, .unset, .unset, .unset, .unset, .unset] []) (fun _ kx_ => XS.lstore X0.here hx rfl (hb hby at_65) rfl (l' := #[.val (.long y1), .second, .val (.long y2), .second, .val (.long y3), .second, .val (.long y4), .second, .val (.int xs), .val (.long (-9223372036854775808 : Int64)), .second, .val (.long y2), .second, .val (.long (-9223372036854775808 : Int64)), .second, .val (.long (9223372036854775807 : Int64)), .second, .unset, .unset, .unset, .unset, .unset, .unset, .unset, .unset, .unset, .unset, .unset, .unset, .unset, .unset]) rfl kx_) ?_
          refine W.s1 (mkF m 69 #[.val (.long y1), .second, .val (.long y2), .second, .val (.long y3), .second, .val (.long y4), .second, .val (.int xs), .val (.long (-9223372036854775808 : Int64)), .second, .val (.long y2), .second, .val (.long (-9223372036854775808 : Int64)), .second, .val (.long (9223372036854775807 : Int64)), .second, .unset, .unset, .unset, .unset, .unset, .unset, .unset, .unset, .unset, .unset, .unset, .unset, .unset, .unset] [(.int xs)]) (fun _ kx_ => XS.iload X0.here hx rfl (hb hby at_67) rfl kx_) ?_
          refine W.s1 (mkF m 71 #[.val (.long y1), .second, .val (.long y2), .second, .val (.long y3), .second, .val (.long y4), .second, .val (.int xs), .val (.long (-9223372036854775808 : Int64)), .second, .val (.long y2), .second, .val (.long (-9223372036854775808 : Int64)), .second, .val (.long (9223372036854775807 : Int64)), .second, .unset, .unset, .unset, .unset, .unset, .unset, .unset, .unset, .unset, .unset, .unset, .unset, .unset, .unset] [(.int (32 : Int32)), (.int xs)]) (fun _ kx_ => XS.bipush X0.here hx rfl (hb hby at_69) kx_) ?_
          refine W.s1 (mkF m 72 #[.val (.long y1), .second, .val (.long y2), .second, .val (.long y3), .second, .val (.long y4), .second, .val (.int xs), .val (.long (-9223372036854775808 : Int64)), .second, .val (.long y2), .second, .val (.long (-9223372036854775808 : Int64)), .second, .val (.long (9223372036854775807 : Int64)), .second, .unset, .unset, .unset, .unset, .unset, .unset, .unset, .unset, .unset, .unset, .unset, .unset, .unset, .unset] [(.int (xs &&& (32 : Int32)))]) (fun _ kx_ => XS.iand X0.here hx rfl (hb hby at_71) rfl kx_) ?_
          refine W.ifc X0 hx (hb hby at_72) (pc' := 83) (pc'' := 75) (by decide) (by decide) rfl (fun (c72 : (xs &&& (32 : Int32)) = (0 : Int32)) => ?_) (fun (c72 : ¬ (xs &&& (32 : Int32)) = (0 : Int32)) => ?_)
          · refine W.s1 (mkF m 85 #[.val (.long y1), .second, .val (.long y2), .second, .val (.long y3), .second, .val (.long y4), .second, .val (.int xs), .val (.long (-9223372036854775808 : Int64)), .second, .val (.long y2), .second, .val (.long (-9223372036854775808 : Int64)), .second, .val (.long (9223372036854775807 : Int64)), .second, .unset, .unset, .unset, .unset, .unset, .unset, .unset, .unset, .unset, .unset, .unset, .unset, .unset, .unset] [(.int xs)]) (fun _ kx_ => XS.iload X0.here hx rfl (hb hby at_83) rfl kx_) ?_
            refine W.s1 (mkF m 87 #[.val (.long y1), .second, .val (.long y2), .second, .val (.long y3), .second, .val (.long y4), .second, .val (.int xs), .val (.long (-9223372036854775808 : Int64)), .second, .val (.long y2), .second, .val (.long (-9223372036854775808 : Int64)), .second, .val (.long (9223372036854775807 : Int64)), .second, .unset, .unset, .unset, .unset, .unset, .unset, .unset, .unset, .unset, .unset, .unset, .unset, .unset, .unset] [(.int (64 : Int32)), (.int xs)]) (fun _ kx_ => XS.bipush X0.here hx rfl (hb hby at_85) kx_) ?_
            refine W.s1 (mkF m 88 #[.val (.long y1), .second, .val (.long y2), .second, .val (.long y3), .second, .val (.long y4), .second, .val (.int xs), .val (.long (-9223372036854775808 : Int64)), .second, .val (.long y2), .second, .val (.long (-9223372036854775808 : Int64)), .second, .val (.long (9223372036854775807 : Int64)), .second, .unset, .unset, .unset, .unset, .unset, .unset, .unset, .unset, .unset, .unset, .unset, .unset, .unset, .unset] [(.int (xs &&& (64 : Int32)))]) (fun _ kx_ => XS.iand X0.here hx rfl (hb hby at_87) rfl kx_) ?_
            refine W.ifc X0 hx (hb hby at_88) (pc' := 99) (pc'' := 91) (by decide) (by decide) rfl (fun (c88 : (xs &&& (64 : Int32)) = (0 : Int32)) => ?_) (fun (c88 : ¬ (xs &&& (64 : Int32)) = (0 : Int32)) => ?_)
            · refine W.gets X0 hx hZ hown (host := "") (Or.inl (hw _ (List.mem_of_getElem? (i := 2) rfl))) Via.refl e0 (Sta.ext O0.2 S_VALID) (hb hby at_99) (pc' := 102) rfl (fun T200 X200 e200 => ?_)
              refine W.s1 (mkF m 104 #[.val (.long y1), .second, .val (.long y2), .second, .val (.long y3), .second, .val (.long y4), .second, .val (.int xs), .val (.long (-9223372036854775808 : Int64)), .second, .val (.long y2), .second, .val (.long (-9223372036854775808 : Int64)), .second, .val (.long (9223372036854775807 : Int64)), .second, .val (.ref aV), .unset, .unset, .unset, .unset, .unset, .unset, .unset, .unset, .unset, .unset, .unset, .unset, .unset] []) (fun _ kx_ => XS.astore X200.here hx rfl (hb hby at_102) rfl rfl (l' := #[.val (.long y1), .second, .val (.long y2), .second, .val (.long y3), .second, .val (.long y4), .second, .val (.int xs), .val (.long (-9223372036854775808 : Int64)), .second, .val (.long y2), .second, .val (.long (-9223372036854775808 : Int64)), .second, .val (.long (9223372036854775807 : Int64)), .second, .val (.ref aV), .unset, .unset, .unset, .unset, .unset, .unset, .unset, .unset, .unset, .unset, .unset, .unset, .unset]) rfl kx_) ?_
              exact J104 _ _ _ _ _ _ X200 e200 E_VALID
            · refine W.gets X0 hx hZ hown (host := "") (Or.inl (hw _ (List.mem_of_getElem? (i := 89) rfl))) Via.refl e0 (Sta.ext O0.2 S_UNDECIDED) (hb hby at_91) (pc' := 94) rfl (fun T201 X201 e201 => ?_)
              refine W.s1 (mkF m 96 #[.val (.long y1), .second, .val (.long y2), .second, .val (.long y3), .second, .val (.long y4), .second, .val (.int xs), .val (.long (-9223372036854775808 : Int64)), .second, .val (.long y2), .second, .val (.long (-9223372036854775808 : Int64)), .second, .val (.long (9223372036854775807 : Int64)), .second, .val (.ref aU), .unset, .unset, .unset, .unset, .unset, .unset, .unset, .unset, .unset, .unset, .unset, .unset, .unset] []) (fun _ kx_ => XS.astore X201.here hx rfl (hb hby at_94) rfl rfl (l' := #[.val (.long y1), .second, .val (.long y2), .second, .val (.long y3), .second, .val (.long y4), .second, .val (.int xs), .val (.long (-9223372036854775808 : Int64)), .second, .val (.long y2), .second, .val (.long (-9223372036854775808 : Int64)), .second, .val (.long (9223372036854775807 : Int64)), .second, .val (.ref aU), .unset, .unset, .unset, .unset, .unset, .unset, .unset, .unset, .unset, .unset, .unset, .unset, .unset]) rfl kx_) ?_
              refine W.s1 (mkF m 104 #[.val (.long y1), .second, .val (.long y2), .second, .val (.long y3), .second, .val (.long y4), .second, .val (.int xs), .val (.long (-9223372036854775808 : Int64)), .second, .val (.long y2), .second, .val (.long (-9223372036854775808 : Int64)), .second, .val (.long (9223372036854775807 : Int64)), .second, .val (.ref aU), .unset, .unset, .unset, .unset, .unset, .unset, .unset, .unset, .unset, .unset, .unset, .unset, .unset] []) (fun _ kx_ => XS.goto X201.here hx rfl (pc0 := 96) (pc' := 104) rfl (hb hby at_96) (by decide) (by decide) kx_) ?_
              exact J104 _ _ _ _ _ _ X201 e201 E_UNDECIDED
          · refine W.gets X0 hx hZ hown (host := "") (Or.inl (hw _ (List.mem_of_getElem? (i := 87) rfl))) Via.refl e0 (Sta.ext O0.2 S_INVALID) (hb hby at_75) (pc' := 78) rfl (fun T202 X202 e202 => ?_)
            refine W.s1 (mkF m 80 #[.val (.long y1), .second, .val (.long y2), .second, .val (.long y3), .second, .val (.long y4), .second, .val (.int xs), .val (.long (-9223372036854775808 : Int64)), .second, .val (.long y2), .second, .val (.long (-9223372036854775808 : Int64)), .second, .val (.long (9223372036854775807 : Int64)), .second, .val (.ref aI), .unset, .unset, .unset, .unset, .unset, .unset, .unset, .unset, .unset, .unset, .unset, .unset, .unset] []) (fun _ kx_ => XS.astore X202.here hx rfl (hb hby at_78) rfl rfl (l' := #[.val (.long y1), .second, .val (.long y2), .second, .val (.long y3), .second, .val (.long y4), .second, .val (.int xs), .val (.long (-9223372036854775808 : Int64)), .second, .val (.long y2), .second, .val (.long (-9223372036854775808 : Int64)), .second, .val (.long (9223372036854775807 : Int64)), .second, .val (.ref aI), .unset, .unset, .unset, .unset, .unset, .unset, .unset, .unset, .unset, .unset, .unset, .unset, .unset]) rfl kx_) ?_
            refine W.s1 (mkF m 104 #[.val (.long y1), .second, .val (.long y2), .second, .val (.long y3), .second, .val (.long y4), .second, .val (.int xs), .val (.long (-9223372036854775808 : Int64)), .second, .val (.long y2), .second, .val (.long (-9223372036854775808 : Int64)), .second, .val (.long (9223372036854775807 : Int64)), .second, .val (.ref aI), .unset, .unset, .unset, .unset, .unset, .unset, .unset, .unset, .unset, .unset, .unset, .unset, .unset] []) (fun _ kx_ => XS.goto X202.here hx rfl (pc0 := 80) (pc' := 104) rfl (hb hby at_80) (by decide) (by decide) kx_) ?_
            exact J104 _ _ _ _ _ _ X202 e202 E_INVALID
    · refine W.s1 (mkF m 26 #[.val (.long y1), .second, .val (.long y2), .second, .val (.long y3), .second, .val (.long y4), .second, .val (.int xs), .val (.long (-9223372036854775808 : Int64)), .second, .unset, .unset, .unset, .unset, .unset, .unset, .unset, .unset, .unset, .unset, .unset, .unset, .unset, .unset, .unset, .unset, .unset, .unset, .unset, .unset] [(.long (9223372036854775807 : Int64))]) (fun _ kx_ => X0.ldc2Long hx hown (mvT hZ (hw _ (List.mem_of_getElem? (i := 1) rfl))) (g := (mkF m 23 #[.val (.long y1), .second, .val (.long y2), .second, .val (.long y3), .second, .val (.long y4), .second, .val (.int xs), .val (.long (-9223372036854775808 : Int64)), .second, .unset, .unset, .unset, .unset, .unset, .unset, .unset, .unset, .unset, .unset, .unset, .unset, .unset, .unset, .unset, .unset, .unset, .unset, .unset, .unset] [])) rfl (hb hby at_23) _ kx_) ?_
      refine W.s1 (mkF m 30 #[.val (.long y1), .second, .val (.long y2), .second, .val (.long y3), .second, .val (.long y4), .second, .val (.int xs), .val (.long (-9223372036854775808 : Int64)), .second, .unset, .unset, .unset, .unset, .unset, .unset, .unset, .unset, .unset, .unset, .unset, .unset, .unset, .unset, .unset, .unset, .unset, .unset, .unset, .unset] [(.long (9223372036854775807 : Int64))]) (fun _ kx_ => XS.goto X0.here hx rfl (pc0 := 26) (pc' := 30) rfl (hb hby at_26) (by decide) (by decide) kx_) ?_
      refine W.s1 (mkF m 32 #[.val (.long y1), .second, .val (.long y2), .second, .val (.long y3), .second, .val (.long y4), .second, .val (.int xs), .val (.long (-9223372036854775808 : Int64)), .second, .val (.long (9223372036854775807 : Int64)), .second, .unset, .unset, .unset, .unset, .unset, .unset, .unset, .unset, .unset, .unset, .unset, .unset, .unset, .unset, .unset, .unset, .unset, .unset] []) (fun _ kx_ => XS.lstore X0.here hx rfl (hb hby at_30) rfl (l' := #[.val (.long y1), .second, .val (.long y2), .second, .val (.long y3), .second, .val (.long y4), .second, .val (.int xs), .val (.long (-9223372036854775808 : Int64)), .second, .val (.long (9223372036854775807 : Int64)), .second, .unset, .unset, .unset, .unset, .unset, .unset, .unset, .unset, .unset, .unset, .unset, .unset, .unset, .unset, .unset, .unset, .unset, .unset]) rfl kx_) ?_
      refine W.s1 (mkF m 34 #[.val (.long y1), .second, .val (.long y2), .second, .val (.long y3), .second, .val (.long y4), .second, .val (.int xs), .val (.long (-9223372036854775808 : Int64)), .second, .val (.long (9223372036854775807 : Int64)), .second, .unset, .unset, .unset, .unset, .unset, .unset, .unset, .unset, .unset, .unset, .unset, .unset, .unset, .unset, .unset, .unset, .unset, .unset] [(.int xs)]) (fun _ kx_ => XS.iload X0.here hx rfl (hb hby at_32) rfl kx_) ?_
      refine W.s1 (mkF m 35 #[.val (.long y1), .second, .val (.long y2), .second, .val (.long y3), .second, .val (.long y4), .second, .val (.int xs), .val (.long (-9223372036854775808 : Int64)), .second, .val (.long (9223372036854775807 : Int64)), .second, .unset, .unset, .unset, .unset, .unset, .unset, .unset, .unset, .unset, .unset, .unset, .unset, .unset, .unset, .unset, .unset, .unset, .unset] [(.int (4 : Int32)), (.int xs)]) (fun _ kx_ => XS.iconst X0.here hx rfl (hb hby at_34) kx_) ?_
      refine W.s1 (mkF m 36 #[.val (.long y1), .second, .val (.long y2), .second, .val (.long y3), .second, .val (.long y4), .second, .val (.int xs), .val (.long (-9223372036854775808 : Int64)), .second, .val (.long (9223372036854775807 : Int64)), .second, .unset, .unset, .unset, .unset, .unset, .unset, .unset, .unset, .unset, .unset, .unset, .unset, .unset, .unset, .unset, .unset, .unset, .unset] [(.int (xs &&& (4 : Int32)))]) (fun _ kx_ => XS.iand X0.here hx rfl (hb hby at_35) rfl kx_) ?_
      refine W.ifc X0 hx (hb hby at_36) (pc' := 45) (pc'' := 39) (by decide) (by decide) rfl (fun (c36 : (xs &&& (4 : Int32)) = (0 : Int32)) => ?_) (fun (c36 : ¬ (xs &&& (4 : Int32)) = (0 : Int32)) => ?_)
      · refine W.s1 (mkF m 47 #[.val (.long y1), .second, .val (.long y2), .second, .val (.long y3), .second, .val (.long y4), .second, .val (.int xs), .val (.long (-9223372036854775808 : Int64)), .second, .val (.long (9223372036854775807 : Int64)), .second, .unset, .unset, .unset, .unset, .unset, .unset, .unset, .unset, .unset, .unset, .unset, .unset, .unset, .unset, .unset, .unset, .unset, .unset] [(.long y3)]) (fun _ kx_ => XS.lload X0.here hx rfl (hb hby at_45) rfl kx_) ?_
        refine W.s1 (mkF m 49 #[.val (.long y1), .second, .val (.long y2), .second, .val (.long y3), .second, .val (.long y4), .second, .val (.int xs), .val (.long (-9223372036854775808 : Int64)), .second, .val (.long (9223372036854775807 : Int64)), .second, .val (.long y3), .second, .unset, .unset, .unset, .unset, .unset, .unset, .unset, .unset, .unset, .unset, .unset, .unset, .unset, .unset, .unset, .unset] []) (fun _ kx_ => XS.lstore X0.here hx rfl (hb hby at_47) rfl (l' := #[.val (.long y1), .second, .val (.long y2), .second, .val (.long y3), .second, .val (.long y4), .second, .val (.int xs), .val (.long (-9223372036854775808 : Int64)), .second, .val (.long (9223372036854775807 : Int64)), .second, .val (.long y3), .second, .unset, .unset, .unset, .unset, .unset, .unset, .unset, .unset, .unset, .unset, .unset, .unset, .unset, .unset, .unset, .unset]) rfl kx_) ?_
        refine W.s1 (mkF m 51 #[.val (.long y1), .second, .val (.long y2), .second, .val (.long y3), .second, .val (.long y4), .second, .val (.int xs), .val (.long (-9223372036854775808 : Int64)), .second, .val (.long (9223372036854775807 : Int64)), .second, .val (.long y3), .second, .unset, .unset, .unset, .unset, .unset, .unset, .unset, .unset, .unset, .unset, .unset, .unset, .unset, .unset, .unset, .unset] [(.int xs)]) (fun _ kx_ => XS.iload X0.here hx rfl (hb hby at_49) rfl kx_) ?_
        refine W.s1 (mkF m 53 #[.val (.long y1), .second, .val (.long y2), .second, .val (.long y3), .second, .val (.long y4), .second, .val (.int xs), .val (.long (-9223372036854775808 : Int64)), .second, .val (.long (9223372036854775807 : Int64)), .second, .val (.long y3), .second, .unset, .unset, .unset, .unset, .unset, .unset, .unset, .unset, .unset, .unset, .unset, .unset, .unset, .unset, .unset, .unset] [(.int (8 : Int32)), (.int xs)]) (fun _ kx_ => XS.bipush X0.here hx rfl (hb hby at_51) kx_) ?_
        refine W.s1 (mkF m 54 #[.val (.long y1), .second, .val (.long y2), .second, .val (.long y3), .second, .val (.long y4), .second, .val (.int xs), .val (.long (-9223372036854775808 : Int64)), .second, .val (.long (9223372036854775807 : Int64)), .second, .val (.long y3), .second, .unset, .unset, .unset, .unset, .unset, .unset, .unset, .unset, .unset, .unset, .unset, .unset, .unset, .unset, .unset, .unset] [(.int (xs &&& (8 : Int32)))]) (fun _ kx_ => XS.iand X0.here hx rfl (hb hby at_53) rfl kx_) ?_
        refine W.ifc X0 hx (hb hby at_54) (pc' := 63) (pc'' := 57) (by decide) (by decide) rfl (fun (c54 : (xs &&& (8 : Int32)) = (0 : Int32)) => ?_) (fun (c54 : ¬ (xs &&& (8 : Int32)) = (0 : Int32)) => ?_)
        · refine W.s1 (mkF m 65 #[.val (.long y1), .second, .val (.long y2), .second, .val (.long y3), .second, .val (.long y4), .second, .val (.int xs), .val (.long (-9223372036854775808 : Int64)), .second, .val (.long (9223372036854775807 : Int64)), .second, .val (.long y3), .second, .unset, .unset, .unset, .unset, .unset, .unset, .unset, .unset, .unset, .unset, .unset, .unset, .unset, .unset, .unset, .unset] [(.long y4)]) (fun _ kx_ => XS.lload X0.here hx rfl (hb hby at_63) rfl kx_) ?_
          refine W.s1 (mkF m 67 #[.val (.long y1), .second, .val (.long y2), .second, .val (.long y3), .second, .val (.long y4), .second, .val (.int xs), .val (.long (-9223372036854775808 : Int64)), .second, .val (.long (9223372036854775807 : Int64)), .second, .val (.long y3), .second, .val (.long y4), .second, .unset, .unset, .unset, .unset, .unset, .unset, .unset, .unset, .unset, .unset, .unset, .unset, .unset, .unset] []) (fun _ kx_ => XS.lstore X0.here hx rfl (hb hby at_65) rfl (l' := #[.val (.long y1), .second, .val (.long y2), .second, .val (.long y3), .second, .val (.long y4), .second, .val (.int xs), .val (.long (-9223372036854775808 : Int64)), .second, .val (.long (9223372036854775807 : Int64)), .second, .val (.long y3), .second, .val (.long y4), .second, .unset, .unset, .unset, .unset, .unset, .unset, .unset, .unset, .unset, .unset, .unset, .unset, .unset, .unset]) rfl kx_) ?_
          refine W.s1 (mkF m 69 #[.val (.long y1), .second, .val (.long y2), .second, .val (.long y3), .second, .val (.long y4), .second, .val (.int xs), .val (.long (-9223372036854775808 : Int64)), .second, .val (.long (9223372036854775807 : Int64)), .second, .val (.long y3), .second, .val (.long y4), .second, .unset, .unset, .unset, .unset, .unset, .unset, .unset, .unset, .unset, .unset, .unset, .unset, .unset, .unset] [(.int xs)]) (fun _ kx_ => XS.iload X0.here hx rfl (hb hby at_67) rfl kx_) ?_
          refine W.s1 (mkF m 71 #[.val (.long y1), .second, .val (.long y2), .second, .val (.long y3), .second, .val (.long y4), .second, .val (.int xs), .val (.long (-9223372036854775808 : Int64)), .second, .val (.long (9223372036854775807 : Int64)), .second, .val (.long y3), .second, .val (.long y4), .second, .unset, .unset, .unset, .unset, .unset, .unset, .unset, .unset, .unset, .unset, .unset, .unset, .unset, .unset] [(.int (32 : Int32)), (.int xs)]) (fun _ kx_ => XS.bipush X0.here hx rfl (hb hby at_69) kx_) ?_
          refine W.s1 (mkF m 72 #[.val (.long y1), .second, .val (.long y2), .second, .val (.long y3), .second, .val (.long y4), .second, .val (.int xs), .val (.long (-9223372036854775808 : Int64)), .second, .val (.long (9223372036854775807 : Int64)), .second, .val (.long y3), .second, .val (.long y4), .second, .unset, .unset, .unset, .unset, .unset, .unset, .unset, .unset, .unset, .unset, .unset, .unset, .unset, .unset] [(.int (xs &&& (32 : Int32)))]) (fun _ kx_ => XS.iand X0.here hx rfl (hb hby at_71) rfl kx_) ?_
          refine W.ifc X0 hx (hb hby at_72) (pc' := 83) (pc'' := 75) (by decide) (by decide) rfl (fun (c72 : (xs &&& (32 : Int32)) = (0 : Int32)) => ?_) (fun (c72 : ¬ (xs &&& (32 : Int32)) = (0 : Int32)) => ?_)
          · refine W.s1 (mkF m 85 #[.val (.long y1), .second, .val (.long y2), .second, .val (.long y3), .second, .val (.long y4), .second, .val (.int xs), .val (.long (-9223372036854775808 : Int64)), .second, .val (.long (9223372036854775807 : Int64)), .second, .val (.long y3), .second, .val (.long y4), .second, .unset, .unset, .unset, .unset, .unset, .unset, .unset, .unset, .unset, .unset, .unset, .unset, .unset, .unset] [(.int xs)]) (fun _ kx_ => XS.iload X0.here hx rfl (hb hby at_83) rfl kx_) ?_
            refine W.s1 (mkF m 87 #[.val (.long y1), .second, .val (.long y2), .second, .val (.long y3), .second, .val (.long y4), .second, .val (.int xs), .val (.long (-9223372036854775808 : Int64)), .second, .val (.long (9223372036854775807 : Int64)), .second, .val (.long y3), .second, .val (.long y4), .second, .unset, .unset, .unset, .unset, .unset, .unset, .unset, .unset, .unset, .unset, .unset, .unset, .unset, .unset] [(.int (64 : Int32)), (.int xs)]) (fun _ kx_ => XS.bipush X0.here hx rfl (hb hby at_85) kx_) ?_
            refine W.s1 (mkF m 88 #[.val (.long y1), .second, .val (.long y2), .second, .val (.long y3), .second, .val (.long y4), .second, .val (.int xs), .val (.long (-9223372036854775808 : Int64)), .second, .val (.long (9223372036854775807 : Int64)), .second, .val (.long y3), .second, .val (.long y4), .second, .unset, .unset, .unset, .unset, .unset, .unset, .unset, .unset, .unset, .unset, .unset, .unset, .unset, .unset] [(.int (xs &&& (64 : Int32)))]) (fun _ kx_ => XS.iand X0.here hx rfl (hb hby at_87) rfl kx_) ?_
            refine W.ifc X0 hx (hb hby at_88) (pc' := 99) (pc'' := 91) (by decide) (by decide) rfl (fun (c88 : (xs &&& (64 : Int32)) = (0 : Int32)) => ?_) (fun (c88 : ¬ (xs &&& (64 : Int32)) = (0 : Int32)) => ?_)
            · refine W.gets X0 hx hZ hown (host := "") (Or.inl (hw _ (List.mem_of_getElem? (i := 2) rfl))) Via.refl e0 (Sta.ext O0.2 S_VALID) (hb hby at_99) (pc' := 102) rfl (fun T203 X203 e203 => ?_)
              refine W.s1 (mkF m 104 #[.val (.long y1), .second, .val (.long y2), .second, .val (.long y3), .second, .val (.long y4), .second, .val (.int xs), .val (.long (-9223372036854775808 : Int64)), .second, .val (.long (9223372036854775807 : Int64)), .second, .val (.long y3), .second, .val (.long y4), .second, .val (.ref aV), .unset, .unset, .unset, .unset, .unset, .unset, .unset, .unset, .unset, .unset, .unset, .unset, .unset] []) (fun _ kx_ => XS.astore X203.here hx rfl (hb hby at_102) rfl rfl (l' := #[.val (.long y1), .second, .val (.long y2), .second, .val (.long y3), .second, .val (.long y4), .second, .val (.int xs), .val (.long (-9223372036854775808 : Int64)), .second, .val (.long (9223372036854775807 : Int64)), .second, .val (.long y3), .second, .val (.long y4), .second, .val (.ref aV), .unset, .unset, .unset, .unset, .unset, .unset, .unset, .unset, .unset, .unset, .unset, .unset, .unset]) rfl kx_) ?_
              exact J104 _ _ _ _ _ _ X203 e203 E_VALID
            · refine W.gets X0 hx hZ hown (host := "") (Or.inl (hw _ (List.mem_of_getElem? (i := 89) rfl))) Via.refl e0 (Sta.ext O0.2 S_UNDECIDED) (hb hby at_91) (pc' := 94) rfl (fun T204 X204 e204 => ?_)
              refine W.s1 (mkF m 96 #[.val (.long y1), .second, .val (.long y2), .second, .val (.long y3), .second, .val (.long y4), .second, .val (.int xs), .val (.long (-9223372036854775808 : Int64)), .second, .val (.long (9223372036854775807 : Int64)), .second, .val (.long y3), .second, .val (.long y4), .second, .val (.ref aU), .unset, .unset, .unset, .unset, .unset, .unset, .unset, .unset, .unset, .unset, .unset, .unset, .unset] []) (fun _ kx_ => XS.astore X204.here hx rfl (hb hby at_94) rfl rfl (l' := #[.val (.long y1), .second, .val (.long y2), .second, .val (.long y3), .second, .val (.long y4), .second, .val (.int xs), .val (.long (-9223372036854775808 : Int64)), .second, .val (.long (9223372036854775807 : Int64)), .second, .val (.long y3), .second, .val (.long y4), .second, .val (.ref aU), .unset, .unset, .unset, .unset, .unset, .unset, .unset, .unset, .unset, .unset, .unset, .unset, .unset]) rfl kx_) ?_
              refine W.s1 (mkF m 104 #[.val (.long y1), .second, .val (.long y2), .second, .val (.long y3), .second, .val (.long y4), .second, .val (.int xs), .val (.long (-9223372036854775808 : Int64)), .second, .val (.long (9223372036854775807 : Int64)), .second, .val (.long y3), .second, .val (.long y4), .second, .val (.ref aU), .unset, .unset, .unset, .unset, .unset, .unset, .unset, .unset, .unset, .unset, .unset, .unset, .unset] []) (fun _ kx_ => XS.goto X204.here hx rfl (pc0 := 96) (pc' := 104) rfl (hb hby at_96) (by decide) (by decide) kx_) ?_
              exact J104 _ _ _ _ _ _ X204 e204 E_UNDECIDED
          · refine W.gets X0 hx hZ hown (host := "") (Or.inl (hw _ (List.mem_of_getElem? (i := 87) rfl))) Via.refl e0 (Sta.ext O0.2 S_INVALID) (hb hby at_75) (pc' := 78) rfl (fun T205 X205 e205 => ?_)
            refine W.s1 (mkF m 80 #[.val (.long y1), .second, .val (.long y2), .second, .val (.long y3), .second, .val (.long y4), .second, .val (.int xs), .val (.long (-9223372036854775808 : Int64)), .second, .val (.long (9223372036854775807 : Int64)), .second, .val (.long y3), .second, .val (.long y4), .second, .val (.ref aI), .unset, .unset, .unset, .unset, .unset, .unset, .unset, .unset, .unset, .unset, .unset, .unset, .unset] []) (fun _ kx_ => XS.astore X205.here hx rfl (hb hby at_78) rfl rfl (l' := #[.val (.long y1), .second, .val (.long y2), .second, .val (.long y3), .second, .val (.long y4), .second, .val (.int xs), .val (.long (-9223372036854775808 : Int64)), .second, .val (.long (9223372036854775807 : Int64)), .second, .val (.long y3), .second, .val (.long y4), .second, .val (.ref aI), .unset, .unset, .unset, .unset, .unset, .unset, .unset, .unset, .unset, .unset, .unset, .unset, .unset]) rfl kx_) ?_
            refine W.s1 (mkF m 104 #[.val (.long y1), .second, .val (.long y2), .second, .val (.long y3), .second, .val (.long y4), .second, .val (.int xs), .val (.long (-9223372036854775808 : Int64)), .second, .val (.long (9223372036854775807 : Int64)), .second, .val (.long y3), .second, .val (.long y4), .second, .val (.ref aI), .unset, .unset, .unset, .unset, .unset, .unset, .unset, .unset, .unset, .unset, .unset, .unset, .unset] []) (fun _ kx_ => XS.goto X205.here hx rfl (pc0 := 80) (pc' := 104) rfl (hb hby at_80) (by decide) (by decide) kx_) ?_
            exact J104 _ _ _ _ _ _ X205 e205 E_INVALID
        · refine W.s1 (mkF m 60 #[.val (.long y1), .second, .val (.long y2), .second, .val (.long y3), .second, .val (.long y4), .second, .val (.int xs), .val (.long (-9223372036854775808 : Int64)), .second, .val (.long (9223372036854775807 : Int64)), .second, .val (.long y3), .second, .unset, .unset, .unset, .unset, .unset, .unset, .unset, .unset, .unset, .unset, .unset, .unset, .unset, .unset, .unset, .unset] [(.long (9223372036854775807 : Int64))]) (fun _ kx_ => X0.ldc2Long hx hown (mvT hZ (hw _ (List.mem_of_getElem? (i := 1) rfl))) (g := (mkF m 57 #[.val (.long y1), .second, .val (.long y2), .second, .val (.long y3), .second, .val (.long y4), .second, .val (.int xs), .val (.long (-9223372036854775808 : Int64)), .second, .val (.long (9223372036854775807 : Int64)), .second, .val (.long y3), .second, .unset, .unset, .unset, .unset, .unset, .unset, .unset, .unset, .unset, .unset, .unset, .unset, .unset, .unset, .unset, .unset] [])) rfl (hb hby at_57) _ kx_) ?_
          refine W.s1 (mkF m 65 #[.val (.long y1), .second, .val (.long y2), .second, .val (.long y3), .second, .val (.long y4), .second, .val (.int xs), .val (.long (-9223372036854775808 : Int64)), .second, .val (.long (9223372036854775807 : Int64)), .second, .val (.long y3), .second, .unset, .unset, .unset, .unset, .unset, .unset, .unset, .unset, .unset, .unset, .unset, .unset, .unset, .unset, .unset, .unset] [(.long (9223372036854775807 : Int64))]) (fun _ kx_ => XS.goto X0.here hx rfl (pc0 := 60) (pc' := 65) rfl (hb hby at_60) (by decide) (by decide) kx_) ?_
          refine W.s1 (mkF m 67 #[.val (.long y1), .second, .val (.long y2), .second, .val (.long y3), .second, .val (.long y4), .second, .val (.int xs), .val (.long (-9223372036854775808 : Int64)), .second, .val (.long (9223372036854775807 : Int64)), .second, .val (.long y3), .second, .val (.long (9223372036854775807 : Int64)), .second, .unset, .unset, .unset, .unset, .unset, .unset, .unset, .unset, .unset, .unset, .unset, .unset, .unset, .unset] []) (fun _ kx_ => XS.lstore X0.here hx rfl (hb hby at_65) rfl (l' := #[.val (.long y1), .second, .val (.long y2), .second, .val (.long y3), .second, .val (.long y4), .second, .val (.int xs), .val (.long (-9223372036854775808 : Int64)), .second, .val (.long (9223372036854775807 : Int64)), .second, .val (.long y3), .second, .val (.long (9223372036854775807 : Int64)), .second, .unset, .unset, .unset, .unset, .unset, .unset, .unset, .unset, .unset, .unset, .unset, .unset, .unset, .unset]) rfl kx_) ?_
          refine W.s1 (mkF m 69 #[.val (.long y1), .second, .val (.long y2), .second, .val (.long y3), .second, .val (.long y4), .second, .val (.int xs), .val (.long (-9223372036854775808 : Int64)), .second, .val (.long (9223372036854775807 : Int64)), .second, .val (.long y3), .second, .val (.long (9223372036854775807 : Int64)), .second, .unset, .unset, .unset, .unset, .unset, .unset, .unset, .unset, .unset, .unset, .unset, .unset, .unset, .unset] [(.int xs)]) (fun _ kx_ => XS.iload X0.here hx rfl (hb hby at_67) rfl kx_) ?_
          refine W.s1 (mkF m 71 #[.val (.long y1), .second, .val (.long y2), .second, .val (.long y3), .second, .val (.long y4), .second, .val (.int xs), .val (.long (-9223372036854775808 : Int64)), .second, .val (.long (9223372036854775807 : Int64)), .second, .val (.long y3), .second, .val (.long (9223372036854775807 : Int64)), .second, .unset, .unset, .unset, .unset, .unset, .unset, .unset, .unset, .unset, .unset, .unset, .unset, .unset, .unset] [(.int (32 : Int32)), (.int xs)]) (fun _ kx_ => XS.bipush X0.here hx rfl (hb hby at_69) kx_) ?_
          refine W.s1 (mkF m 72 #[.val (.long y1), .second, .val (.long y2), .second, .val (.long y3), .second, .val (.long y4), .second, .val (.int xs), .val (.long (-9223372036854775808 : Int64)), .second, .val (.long (9223372036854775807 : Int64)), .second, .val (.long y3), .second, .val (.long (9223372036854775807 : Int64)), .second, .unset, .unset, .unset, .unset, .unset, .unset, .unset, .unset, .unset, .unset, .unset, .unset, .unset, .unset] [(.int (xs &&& (32 : Int32)))]) (fun _ kx_ => XS.iand X0.here hx rfl (hb hby at_71) rfl kx_) ?_
          refine W.ifc X0 hx (hb hby at_72) (pc' := 83) (pc'' := 75) (by decide) (by decide) rfl (fun (c72 : (xs &&& (32 : Int32)) = (0 : Int32)) => ?_) (fun (c72 : ¬ (xs &&& (32 : Int32)) = (0 : Int32)) => ?_)
          · refine W.s1 (mkF m 85 #[.val (.long y1), .second, .val (.long y2), .second, .val (.long y3), .second, .val (.long y4), .second, .val (.int xs), .val (.long (-9223372036854775808 : Int64)), .second, .val (.long (9223372036854775807 : Int64)), .second, .val (.long y3), .second, .val (.long (9223372036854775807 : Int64)), .second, .unset, .unset, .unset, .unset, .unset, .unset, .unset, .unset, .unset, .unset, .unset, .unset, .unset, .unset] [(.int xs)]) (fun _ kx_ => XS.iload X0.here hx rfl (hb hby at_83) rfl kx_) ?_
            refine W.s1 (mkF m 87 #[.val (.long y1), .second, .val (.long y2), .second, .val (.long y3), .second, .val (.long y4), .second, .val (.int xs), .val (.long (-9223372036854775808 : Int64)), .second, .val (.long (9223372036854775807 : Int64)), .second, .val (.long y3), .second, .val (.long (9223372036854775807 : Int64)), .second, .unset, .unset, .unset, .unset, .unset, .unset, .unset, .unset, .unset, .unset, .unset, .unset, .unset, .unset] [(.int (64 : Int32)), (.int xs)]) (fun _ kx_ => XS.bipush X0.here hx rfl (hb hby at_85) kx_) ?_
            refine W.s1 (mkF m 88 #[.val (.long y1), .second, .val (.long y2), .second, .val (.long y3), .second, .val (.long y4), .second, .val (.int xs), .val (.long (-9223372036854775808 : Int64)), .second, .val (.long (9223372036854775807 : Int64)), .second, .val (.long y3), .second, .val (.long (9223372036854775807 : Int64)), .second, .unset, .unset, .unset, .unset, .unset, .unset, .unset, .unset, .unset, .unset, .unset, .unset, .unset, .unset] [(.int (xs &&& (64 : Int32)))]) (fun _ kx_ => XS.iand X0.here hx rfl (hb hby at_87) rfl kx_) ?_
            refine W.ifc X0 hx (hb hby at_88) (pc' := 99) (pc'' := 91) (by decide) (by decide) rfl (fun (c88 : (xs &&& (64 : Int32)) = (0 : Int32)) => ?_) (fun (c88 : ¬ (xs &&& (64 : Int32)) = (0 : Int32)) => ?_)
            · refine W.gets X0 hx hZ hown (host := "") (Or.inl (hw _ (List.mem_of_getElem? (i := 2) rfl))) Via.refl e0 (Sta.ext O0.2 S_VALID) (hb hby at_99) (pc' := 102) rfl (fun T206 X206 e206 => ?_)
              refine W.s1 (mkF m 104 #[.val (.long y1), .second, .val (.long y2), .second, .val (.long y3), .second, .val (.long y4), .second, .val (.int xs), .val (.long (-9223372036854775808 : Int64)), .second, .val (.long (9223372036854775807 : Int64)), .second, .val (.long y3), .second, .val (.long (9223372036854775807 : Int64)), .second, .val (.ref aV), .unset, .unset, .unset, .unset, .unset, .unset, .unset, .unset, .unset, .unset, .unset, .unset, .unset] []) (fun _ kx_ => XS.astore X206.here hx rfl (hb hby at_102) rfl rfl (l' := #[.val (.long y1), .second, .val (.long y2), .second, .val (.long y3), .second, .val (.long y4), .second, .val (.int xs), .val (.long (-9223372036854775808 : Int64)), .second, .val (.long (9223372036854775807 : Int64)), .second, .val (.long y3), .second, .val (.long (9223372036854775807 : Int64)), .second, .val (.ref aV), .unset, .unset, .unset, .unset, .unset, .unset, .unset, .unset, .unset, .unset, .unset, .unset, .unset]) rfl kx_) ?_
              exact J104 _ _ _ _ _ _ X206 e206 E_VALID
            · refine W.gets X0 hx hZ hown (host := "") (Or.inl (hw _ (List.mem_of_getElem? (i := 89) rfl))) Via.refl e0 (Sta.ext O0.2 S_UNDECIDED) (hb hby at_91) (pc' := 94) rfl (fun T207 X207 e207 => ?_)
              refine W.s1 (mkF m 96 #[.val (.long y1), .second, .val (.long y2), .second, .val (.long y3), .second, .val (.long y4), .second, .val (.int xs), .val (.long (-9223372036854775808 : Int64)), .second, .val (.long (9223372036854775807 : Int64)), .second, .val (.long y3), .second, .val (.long (9223372036854775807 : Int64)), .second, .val (.ref aU), .unset, .unset, .unset, .unset, .unset, .unset, .unset, .unset, .unset, .unset, .unset, .unset, .unset] []) (fun _ kx_ => XS.astore X207.here hx rfl (hb hby at_94) rfl rfl (l' := #[.val (.long y1), .second, .val (.long y2), .second, .val (.long y3), .second, .val (.long y4), .second, .val (.int xs), .val (.long (-9223372036854775808 : Int64)), .second, .val (.long (9223372036854775807 : Int64)), .second, .val (.long y3), .second, .val (.long (9223372036854775807 : Int64)), .second, .val (.ref aU), .unset, .unset, .unset, .unset, .unset, .unset, .unset, .unset, .unset, .unset, .unset, .unset, .unset]) rfl kx_) ?_
              refine W.s1 (mkF m 104 #[.val (.long y1), .second, .val (.long y2), .second, .val (.long y3), .second, .val (.long y4), .second, .val (.int xs), .val (.long (-9223372036854775808 : Int64)), .second, .val (.long (9223372036854775807 : Int64)), .second, .val (.long y3), .second, .val (.long (9223372036854775807 : Int64)), .second, .val (.ref aU), .unset, .unset, .unset, .unset, .unset, .unset, .unset, .unset, .unset, .unset, .unset, .unset, .unset] []) (fun _ kx_ => XS.goto X207.here hx rfl (pc0 := 96) (pc' := 104) rfl (hb hby at_96) (by decide) (by decide) kx_) ?_
              exact J104 _ _ _ _ _ _ X207 e207 E_UNDECIDED
          · refine W.gets X0 hx hZ hown (host := "") (Or.inl (hw _ (List.mem_of_getElem? (i := 87) rfl))) Via.refl e0 (Sta.ext O0.2 S_INVALID) (hb hby at_75) (pc' := 78) rfl (fun T208 X208 e208 => ?_)
            refine W.s1 (mkF m 80 #[.val (.long y1), .second, .val (.long y2), .second, .val (.long y3), .second, .val (.long y4), .second, .val (.int xs), .val (.long (-9223372036854775808 : Int64)), .second, .val (.long (9223372036854775807 : Int64)), .second, .val (.long y3), .second, .val (.long (9223372036854775807 : Int64)), .second, .val (.ref aI), .unset, .unset, .unset, .unset, .unset, .unset, .unset, .unset, .unset, .unset, .unset, .unset, .unset] []) (fun _ kx_ => XS.astore X208.here hx rfl (hb hby at_78) rfl rfl (l' := #[.val (.long y1), .second, .val (.long y2), .second, .val (.long y3), .second, .val (.long y4), .second, .val (.int xs), .val (.long (-9223372036854775808 : Int64)), .second, .val (.long (9223372036854775807 : Int64)), .second, .val (.long y3), .second, .val (.long (9223372036854775807 : Int64)), .second, .val (.ref aI), .unset, .unset, .unset, .unset, .unset, .unset, .unset, .unset, .unset, .unset, .unset, .unset, .unset]) rfl kx_) ?_
            refine W.s1 (mkF m 104 #[.val (.long y1), .second, .val (.long y2), .second, .val (.long y3), .second, .val (.long y4), .second, .val (.int xs), .val (.long (-9223372036854775808 : Int64)), .second, .val (.long (9223372036854775807 : Int64)), .second, .val (.long y3), .second, .val (.long (9223372036854775807 : Int64)), .second, .val (.ref aI), .unset, .unset, .unset, .unset, .unset, .unset, .unset, .unset, .unset, .unset, .unset, .unset, .unset] []) (fun _ kx_ => XS.goto X208.here hx rfl (pc0 := 80) (pc' := 104) rfl (hb hby at_80) (by decide) (by decide) kx_) ?_
            exact J104 _ _ _ _ _ _ X208 e208 E_INVALID
      · refine W.s1 (mkF m 42 #[.val (.long y1), .second, .val (.long y2), .second, .val (.long y3), .second, .val (.long y4), .second, .val (.int xs), .val (.long (-9223372036854775808 : Int64)), .second, .val (.long (9223372036854775807 : Int64)), .second, .unset, .unset, .unset, .unset, .unset, .unset, .unset, .unset, .unset, .unset, .unset, .unset, .unset, .unset, .unset, .unset, .unset, .unset] [(.long (-9223372036854775808 : Int64))]) (fun _ kx_ => X0.ldc2Long hx hown (mvT hZ (hw _ (List.mem_of_getElem? (i := 0) rfl))) (g := (mkF m 39 #[.val (.long y1), .second, .val (.long y2), .second, .val (.long y3), .second, .val (.long y4), .second, .val (.int xs), .val (.long (-9223372036854775808 : Int64)), .second, .val (.long (9223372036854775807 : Int64)), .second, .unset, .unset, .unset, .unset, .unset, .unset, .unset, .unset, .unset, .unset, .unset, .unset, .unset, .unset, .unset, .unset, .unset, .unset] [])) rfl (hb hby at_39) _ kx_) ?_
        refine W.s1 (mkF m 47 #[.val (.long y1), .second, .val (.long y2), .second, .val (.long y3), .second, .val (.long y4), .second, .val (.int xs), .val (.long (-9223372036854775808 : Int64)), .second, .val (.long (9223372036854775807 : Int64)), .second, .unset, .unset, .unset, .unset, .unset, .unset, .unset, .unset, .unset, .unset, .unset, .unset, .unset, .unset, .unset, .unset, .unset, .unset] [(.long (-9223372036854775808 : Int64))]) (fun _ kx_ => XS.goto X0.here hx rfl (pc0 := 42) (pc' := 47) rfl (hb hby at_42) (by decide) (by decide) kx_) ?_
        refine W.s1 (mkF m 49 #[.val (.long y1), .second, .val (.long y2), .second, .val (.long y3), .second, .val (.long y4), .second, .val (.int xs), .val (.long (-9223372036854775808 : Int64)), .second, .val (.long (9223372036854775807 : Int64)), .second, .val (.long (-9223372036854775808 : Int64)), .second, .unset, .unset, .unset, .unset, .unset, .unset, .unset, .unset, .unset, .unset, .unset, .unset, .unset, .unset, .unset, .unset] []) (fun _ kx_ => XS.lstore X0.here hx rfl (hb hby at_47) rfl (l' := #[.val (.long y1), .second, .val (.long y2), .second, .val (.long y3), .second, .val (.long y4), .second, .val (.int xs), .val (.long (-9223372036854775808 : Int64)), .second, .val (.long (9223372036854775807 : Int64)), .second, .val (.long (-9223372036854775808 : Int64)), .second, .unset, .unset, .unset, .unset, .unset, .unset, .unset, .unset, .unset, .unset, .unset, .unset, .unset, .unset, .unset, .unset]) rfl kx_) ?_
        refine W.s1 (mkF m 51 #[.val (.long y1), .second, .val (.long y2), .second, .val (.long y3), .second, .val (.long y4), .second, .val (.int xs), .val (.long (-9223372036854775808 : Int64)), .second, .val (.long (9223372036854775807 : Int64)), .second, .val (.long (-9223372036854775808 : Int64)), .second, .unset, .unset, .unset, .unset, .unset, .unset, .unset, .unset, .unset, .unset, .unset, .unset, .unset, .unset, .unset, .unset] [(.int xs)]) (fun _ kx_ => XS.iload X0.here hx rfl (hb hby at_49) rfl kx_) ?_
        refine W.s1 (mkF m 53 #[.val (.long y1), .second, .val (.long y2), .second, .val (.long y3), .second, .val (.long y4), .second, .val (.int xs), .val (.long (-9223372036854775808 : Int64)), .second, .val (.long (9223372036854775807 : Int64)), .second, .val (.long (-9223372036854775808 : Int64)), .second, .unset, .unset, .unset, .unset, .unset, .unset, .unset, .unset, .unset, .unset, .unset, .unset, .unset, .unset, .unset, .unset] [(.int (8 : Int32)), (.int xs)]) (fun _ kx_ => XS.bipush X0.here hx rfl (hb hby at_51) kx_) ?_
        refine W.s1 (mkF m 54 #[.val (.long y1), .second, .val (.long y2), .second, .val (.long y3), .second, .val (.long y4), .second, .val (.int xs), .val (.long (-9223372036854775808 : Int64)), .second, .val (.long (9223372036854775807 : Int64)), .second, .val (.long (-9223372036854775808 : Int64)), .second, .unset, .unset, .unset, .unset, .unset, .unset, .unset, .unset, .unset, .unset, .unset, .unset, .unset, .unset, .unset, .unset] [(.int (xs &&& (8 : Int32)))]) (fun _ kx_ => XS.iand X0.here hx rfl (hb hby at_53) rfl kx_) ?_
        refine W.ifc X0 hx (hb hby at_54) (pc' := 63) (pc'' := 57) (by decide) (by decide) rfl (fun (c54 : (xs &&& (8 : Int32)) = (0 : Int32)) => ?_) (fun (c54 : ¬ (xs &&& (8 : Int32)) = (0 : Int32)) => ?_)
        · refine W.s1 (mkF m 65 #[.val (.long y1), .second, .val (.long y2), .second, .val (.long y3), .second, .val (.long y4), .second, .val (.int xs), .val (.long (-9223372036854775808 : Int64)), .second, .val (.long (9223372036854775807 : Int64)), .second, .val (.long (-9223372036854775808 : Int64)), .second, .unset, .unset, .unset, .unset, .unset, .unset, .unset, .unset, .unset, .unset, .unset, .unset, .unset, .unset, .unset, .unset] [(.long y4)]) (fun _ kx_ => XS.lload X0.here hx rfl (hb hby at_63) rfl kx_) ?_
          refine W.s1 (mkF m 67 #[.val (.long y1), .second, .val (.long y2), .second, .val (.long y3), .second, .val (.long y4), .second, .val (.int xs), .val (.long (-9223372036854775808 : Int64)), .second, .val (.long (9223372036854775807 : Int64)), .second, .val (.long (-9223372036854775808 : Int64)), .second, .val (.long y4), .second, .unset, .unset, .unset, .unset, .unset, .unset, .unset, .unset, .unset, .unset, .unset, .unset, .unset, .unset] []) (fun _ kx_ => XS.lstore X0.here hx rfl (hb hby at_65) rfl (l' := #[.val (.long y1), .second, .val (.long y2), .second, .val (.long y3), .second, .val (.long y4), .second, .val (.int xs), .val (.long (-9223372036854775808 : Int64)), .second, .val (.long (9223372036854775807 : Int64)), .second, .val (.long (-9223372036854775808 : Int64)), .second, .val (.long y4), .second, .unset, .unset, .unset, .unset, .unset, .unset, .unset, .unset, .unset, .unset, .unset, .unset, .unset, .unset]) rfl kx_) ?_
          refine W.s1 (mkF m 69 #[.val (.long y1), .second, .val (.long y2), .second, .val (.long y3), .second, .val (.long y4), .second, .val (.int xs), .val (.long (-9223372036854775808 : Int64)), .second, .val (.long (9223372036854775807 : Int64)), .second, .val (.long (-9223372036854775808 : Int64)), .second, .val (.long y4), .second, .unset, .unset, .unset, .unset, .unset, .unset, .unset, .unset, .unset, .unset, .unset, .unset, .unset, .unset] [(.int xs)]) (fun _ kx_ => XS.iload X0.here hx rfl (hb hby at_67) rfl kx_) ?_
          refine W.s1 (mkF m 71 #[.val (.long y1), .second, .val (.long y2), .second, .val (.long y3), .second, .val (.long y4), .second, .val (.int xs), .val (.long (-9223372036854775808 : Int64)), .second, .val (.long (9223372036854775807 : Int64)), .second, .val (.long (-9223372036854775808 : Int64)), .second, .val (.long y4), .second, .unset, .unset, .unset, .unset, .unset, .unset, .unset, .unset, .unset, .unset, .unset, .unset, .unset, .unset] [(.int (32 : Int32)), (.int xs)]) (fun _ kx_ => XS.bipush X0.here hx rfl (hb hby at_69) kx_) ?_
          refine W.s1 (mkF m 72 #[.val (.long y1), .second, .val (.long y2), .second, .val (.long y3), .second, .val (.long y4), .second, .val (.int xs), .val (.long (-9223372036854775808 : Int64)), .second, .val (.long (9223372036854775807 : Int64)), .second, .val (.long (-9223372036854775808 : Int64)), .second, .val (.long y4), .second, .unset, .unset, .unset, .unset, .unset, .unset, .unset, .unset, .unset, .unset, .unset, .unset, .unset, .unset] [(.int (xs &&& (32 : Int32)))]) (fun _ kx_ => XS.iand X0.here hx rfl (hb hby at_71) rfl kx_) ?_
          refine W.ifc X0 hx (hb hby at_72) (pc' := 83) (pc'' := 75) (by decide) (by decide) rfl (fun (c72 : (xs &&& (32 : Int32)) = (0 : Int32)) => ?_) (fun (c72 : ¬ (xs &&& (32 : Int32)) = (0 : Int32)) => ?_)
          · refine W.s1 (mkF m 85 #[.val (.long y1), .second, .val (.long y2), .second, .val (.long y3), .second, .val (.long y4), .second, .val (.int xs), .val (.long (-9223372036854775808 : Int64)), .second, .val (.long (9223372036854775807 : Int64)), .second, .val (.long (-9223372036854775808 : Int64)), .second, .val (.long y4), .second, .unset, .unset, .unset, .unset, .unset, .unset, .unset, .unset, .unset, .unset, .unset, .unset, .unset, .unset] [(.int xs)]) (fun _ kx_ => XS.iload X0.here hx rfl (hb hby at_83) rfl kx_) ?_
            refine W.s1 (mkF m 87 #[.val (.long y1), .second, .val (.long y2), .second, .val (.long y3), .second, .val (.long y4), .second, .val (.int xs), .val (.long (-9223372036854775808 : Int64)), .second, .val (.long (9223372036854775807 : Int64)), .second, .val (.long (-9223372036854775808 : Int64)), .second, .val (.long y4), .second, .unset, .unset, .unset, .unset, .unset, .unset, .unset, .unset, .unset, .unset, .unset, .unset, .unset, .unset] [(.int (64 : Int32)), (.int xs)]) (fun _ kx_ => XS.bipush X0.here hx rfl (hb hby at_85) kx_) ?_
            refine W.s1 (mkF m 88 #[.val (.long y1), .second, .val (.long y2), .second, .val (.long y3), .second, .val (.long y4), .second, .val (.int xs), .val (.long (-9223372036854775808 : Int64)), .second, .val (.long (9223372036854775807 : Int64)), .second, .val (.long (-9223372036854775808 : Int64)), .second, .val (.long y4), .second, .unset, .unset, .unset, .unset, .unset, .unset, .unset, .unset, .unset, .unset, .unset, .unset, .unset, .unset] [(.int (xs &&& (64 : Int32)))]) (fun _ kx_ => XS.iand X0.here hx rfl (hb hby at_87) rfl kx_) ?_
            refine W.ifc X0 hx (hb hby at_88) (pc' := 99) (pc'' := 91) (by decide) (by decide) rfl (fun (c88 : (xs &&& (64 : Int32)) = (0 : Int32)) => ?_) (fun (c88 : ¬ (xs &&& (64 : Int32)) = (0 : Int32)) => ?_)
            · refine W.gets X0 hx hZ hown (host := "") (Or.inl (hw _ (List.mem_of_getElem? (i := 2) rfl))) Via.refl e0 (Sta.ext O0.2 S_VALID) (hb hby at_99) (pc' := 102) rfl (fun T209 X209 e209 => ?_)
              refine W.s1 (mkF m 104 #[.val (.long y1), .second, .val (.long y2), .second, .val (.long y3), .second, .val (.long y4), .second, .val (.int xs), .val (.long (-9223372036854775808 : Int64)), .second, .val (.long (9223372036854775807 : Int64)), .second, .val (.long (-9223372036854775808 : Int64)), .second, .val (.long y4), .second, .val (.ref aV), .unset, .unset, .unset, .unset, .unset, .unset, .unset, .unset, .unset, .unset, .unset, .unset, .unset] []) (fun _ kx_ => XS.astore X209.here hx rfl (hb hby at_102) rfl rfl (l' := #[.val (.long y1), .second, .val (.long y2), .second, .val (.long y3), .second, .val (.long y4), .second, .val (.int xs), .val (.long (-9223372036854775808 : Int64)), .second, .val (.long (9223372036854775807 : Int64)), .second, .val (.long (-9223372036854775808 : Int64)), .second, .val (.long y4), .second, .val (.ref aV), .unset, .unset, .unset, .unset, .unset, .unset, .unset, .unset, .unset, .unset, .unset, .unset, .unset]) rfl kx_) ?_
              exact J104 _ _ _ _ _ _ X209 e209 E_VALID
            · refine W.gets X0 hx hZ hown (host := "") (Or.inl (hw _ (List.mem_of_getElem? (i := 89) rfl))) Via.refl e0 (Sta.ext O0.2 S_UNDECIDED) (hb hby at_91) (pc' := 94) rfl (fun T210 X210 e210 => ?_)
              refine W.s1 (mkF m 96 #[.val (.long y1), .second, .val (.long y2), .second, .val (.long y3), .second, .val (.long y4), .second, .val (.int xs), .val (.long (-9223372036854775808 : Int64)), .second, .val (.long (9223372036854775807 : Int64)), .second, .val (.long (-9223372036854775808 : Int64)), .second, .val (.long y4), .second, .val (.ref aU), .unset, .unset, .unset, .unset, .unset, .unset, .unset, .unset, .unset, .unset, .unset, .unset, .unset] []) (fun _ kx_ => XS.astore X210.here hx rfl (hb hby at_94) rfl rfl (l' := #[.val (.long y1), .second, .val (.long y2), .second, .val (.long y3), .second, .val (.long y4), .second, .val (.int xs), .val (.long (-9223372036854775808 : Int64)), .second, .val (.long (9223372036854775807 : Int64)), .second, .val (.long (-9223372036854775808 : Int64)), .second, .val (.long y4), .second, .val (.ref aU), .unset, .unset, .unset, .unset, .unset, .unset, .unset, .unset, .unset, .unset, .unset, .unset, .unset]) rfl kx_) ?_
              refine W.s1 (mkF m 104 #[.val (.long y1), .second, .val (.long y2), .second, .val (.long y3), .second, .val (.long y4), .second, .val (.int xs), .val (.long (-9223372036854775808 : Int64)), .second, .val (.long (9223372036854775807 : Int64)), .second, .val (.long (-9223372036854775808 : Int64)), .second, .val (.long y4), .second, .val (.ref aU), .unset, .unset, .unset, .unset, .unset, .unset, .unset, .unset, .unset, .unset, .unset, .unset, .unset] []) (fun _ kx_ => XS.goto X210.here hx rfl (pc0 := 96) (pc' := 104) rfl (hb hby at_96) (by decide) (by decide) kx_) ?_
              exact J104 _ _ _ _ _ _ X210 e210 E_UNDECIDED
          · refine W.gets X0 hx hZ hown (host := "") (Or.inl (hw _ (List.mem_of_getElem? (i := 87) rfl))) Via.refl e0 (Sta.ext O0.2 S_INVALID) (hb hby at_75) (pc' := 78) rfl (fun T211 X211 e211 => ?_)
            refine W.s1 (mkF m 80 #[.val (.long y1), .second, .val (.long y2), .second, .val (.long y3), .second, .val (.long y4), .second, .val (.int xs), .val (.long (-9223372036854775808 : Int64)), .second, .val (.long (9223372036854775807 : Int64)), .second, .val (.long (-9223372036854775808 : Int64)), .second, .val (.long y4), .second, .val (.ref aI), .unset, .unset, .unset, .unset, .unset, .unset, .unset, .unset, .unset, .unset, .unset, .unset, .unset] []) (fun _ kx_ => XS.astore X211.here hx rfl (hb hby at_78) rfl rfl (l' := #[.val (.long y1), .second, .val (.long y2), .second, .val (.long y3), .second, .val (.long y4), .second, .val (.int xs), .val (.long (-9223372036854775808 : Int64)), .second, .val (.long (9223372036854775807 : Int64)), .second, .val (.long (-9223372036854775808 : Int64)), .second, .val (.long y4), .second, .val (.ref aI), .unset, .unset, .unset, .unset, .unset, .unset, .unset, .unset, .unset, .unset, .unset, .unset, .unset]) rfl kx_) ?_
            refine W.s1 (mkF m 104 #[.val (.long y1), .second, .val (.long y2), .second, .val (.long y3), .second, .val (.long y4), .second, .val (.int xs), .val (.long (-9223372036854775808 : Int64)), .second, .val (.long (9223372036854775807 : Int64)), .second, .val (.long (-9223372036854775808 : Int64)), .second, .val (.long y4), .second, .val (.ref aI), .unset, .unset, .unset, .unset, .unset, .unset, .unset, .unset, .unset, .unset, .unset, .unset, .unset] []) (fun _ kx_ => XS.goto X211.here hx rfl (pc0 := 80) (pc' := 104) rfl (hb hby at_80) (by decide) (by decide) kx_) ?_
            exact J104 _ _ _ _ _ _ X211 e211 E_INVALID
        · refine W.s1 (mkF m 60 #[.val (.long y1), .second, .val (.long y2), .second, .val (.long y3), .second, .val (.long y4), .second, .val (.int xs), .val (.long (-9223372036854775808 : Int64)), .second, .val (.long (9223372036854775807 : Int64)), .second, .val (.long (-9223372036854775808 : Int64)), .second, .unset, .unset, .unset, .unset, .unset, .unset, .unset, .unset, .unset, .unset, .unset, .unset, .unset, .unset, .unset, .unset] [(.long (9223372036854775807 : Int64))]) (fun _ kx_ => X0.ldc2Long hx hown (mvT hZ (hw _ (List.mem_of_getElem? (i := 1) rfl))) (g := (mkF m 57 #[.val (.long y1), .second, .val (.long y2), .second, .val (.long y3), .second, .val (.long y4), .second, .val (.int xs), .val (.long (-9223372036854775808 : Int64)), .second, .val (.long (9223372036854775807 : Int64)), .second, .val (.long (-9223372036854775808 : Int64)), .second, .unset, .unset, .unset, .unset, .unset, .unset, .unset, .unset, .unset, .unset, .unset, .unset, .unset, .unset, .unset, .unset] [])) rfl (hb hby at_57) _ kx_) ?_
          refine W.s1 (mkF m 65 #[.val (.long y1), .second, .val (.long y2), .second, .val (.long y3), .second, .val (.long y4), .second, .val (.int xs), .val (.long (-9223372036854775808 : Int64)), .second, .val (.long (9223372036854775807 : Int64)), .second, .val (.long (-9223372036854775808 : Int64)), .second, .unset, .unset, .unset, .unset, .unset, .unset, .unset, .unset, .unset, .unset, .unset, .unset, .unset, .unset, .unset, .unset] [(.long (9223372036854775807 : Int64))]) (fun _ kx_ => XS.goto X0.here hx rfl (pc0 := 60) (pc' := 65) rfl (hb hby at_60) (by decide) (by decide) kx_) ?_
          refine W.s1 (mkF m 67 #[.val (.long y1), .second, .val (.long y2), .second, .val (.long y3), .second, .val (.long y4), .second, .val (.int xs), .val (.long (-9223372036854775808 : Int64)), .second, .val (.long (9223372036854775807 : Int64)), .second, .val (.long (-9223372036854775808 : Int64)), .second, .val (.long (9223372036854775807 : Int64)), .second, .unset, .unset, .unset, .unset, .unset, .unset, .unset, .unset, .unset, .unset, .unset, .unset, .unset, .unset] []) (fun _ kx_ => XS.lstore X0.here hx rfl (hb hby at_65) rfl (l' := #[.val (.long y1), .second, .val (.long y2), .second, .val (.long y3), .second, .val (.long y4), .second, .val (.int xs), .val (.long (-9223372036854775808 : Int64)), .second, .val (.long (9223372036854775807 : Int64)), .second, .val (.long (-9223372036854775808 : Int64)), .second, .val (.long (9223372036854775807 : Int64)), .second, .unset, .unset, .unset, .unset, .unset, .unset, .unset, .unset, .unset, .unset, .unset, .unset, .unset, .unset]) rfl kx_) ?_
          refine W.s1 (mkF m 69 #[.val (.long y1), .second, .val (.long y2), .second, .val (.long y3), .second, .val (.long y4), .second, .val (.int xs), .val (.long (-9223372036854775808 : Int64)), .second, .val (.long (9223372036854775807 : Int64)), .second, .val (.long (-9223372036854775808 : Int64)), .second, .val (.long (9223372036854775807 : Int64)), .second, .unset, .unset, .unset, .unset, .unset, .unset, .unset, .unset, .unset, .unset, .unset, .unset, .unset, .unset] [(.int xs)]) (fun _ kx_ => XS.iload X0.here hx rfl (hb hby at_67) rfl kx_) ?_
          refine W.s1 (mkF m 71 #[.val (.long y1), .second, .val (.long y2), .second, .val (.long y3), .second, .val (.long y4), .second, .val (.int xs), .val (.long (-9223372036854775808 : Int64)), .second, .val (.long (9223372036854775807 : Int64)), .second, .val (.long (-9223372036854775808 : Int64)), .second, .val (.long (9223372036854775807 : Int64)), .second, .unset, .unset, .unset, .unset, .unset, .unset, .unset, .unset, .unset, .unset, .unset, .unset, .unset, .unset] [(.int (32 : Int32)), (.int xs)]) (fun _ kx_ => XS.bipush X0.here hx rfl (hb hby at_69) kx_) ?_
          refine W.s1 (mkF m 72 #[.val (.long y1), .second, .val (.long y2), .second, .val (.long y3), .second, .val (.long y4), .second, .val (.int xs), .val (.long (-9223372036854775808 : Int64)), .second, .val (.long (9223372036854775807 : Int64)), .second, .val (.long (-9223372036854775808 : Int64)), .second, .val (.long (9223372036854775807 : Int64)), .second, .unset, .unset, .unset, .unset, .unset, .unset, .unset, .unset, .unset, .unset, .unset, .unset, .unset, .unset] [(.int (xs &&& (32 : Int32)))]) (fun _ kx_ => XS.iand X0.here hx rfl (hb hby at_71) rfl kx_) ?_
          refine W.ifc X0 hx (hb hby at_72) (pc' := 83) (pc'' := 75) (by decide) (by decide) rfl (fun (c72 : (xs &&& (32 : Int32)) = (0 : Int32)) => ?_) (fun (c72 : ¬ (xs &&& (32 : Int32)) = (0 : Int32)) => ?_)
          · refine W.s1 (mkF m 85 #[.val (.long y1), .second, .val (.long y2), .second, .val (.long y3), .second, .val (.long y4), .second, .val (.int xs), .val (.long (-9223372036854775808 : Int64)), .second, .val (.long (9223372036854775807 : Int64)), .second, .val (.long (-9223372036854775808 : Int64)), .second, .val (.long (9223372036854775807 : Int64)), .second, .unset, .unset, .unset, .unset, .unset, .unset, .unset, .unset, .unset, .unset, .unset, .unset, .unset, .unset] [(.int xs)]) (fun _ kx_ => XS.iload X0.here hx rfl (hb hby at_83) rfl kx_) ?_
            refine W.s1 (mkF m 87 #[.val (.long y1), .second, .val (.long y2), .second, .val (.long y3), .second, .val (.long y4), .second, .val (.int xs), .val (.long (-9223372036854775808 : Int64)), .second, .val (.long (9223372036854775807 : Int64)), .second, .val (.long (-9223372036854775808 : Int64)), .second, .val (.long (9223372036854775807 : Int64)), .second, .unset, .unset, .unset, .unset, .unset, .unset, .unset, .unset, .unset, .unset, .unset, .unset, .unset, .unset] [(.int (64 : Int32)), (.int xs)]) (fun _ kx_ => XS.bipush X0.here hx rfl (hb hby at_85) kx_) ?_
            refine W.s1 (mkF m 88 #[.val (.long y1), .second, .val (.long y2), .second, .val (.long y3), .second, .val (.long y4), .second, .val (.int xs), .val (.long (-9223372036854775808 : Int64)), .second, .val (.long (9223372036854775807 : Int64)), .second, .val (.long (-9223372036854775808 : Int64)), .second, .val (.long (9223372036854775807 : Int64)), .second, .unset, .unset, .unset, .unset, .unset, .unset, .unset, .unset, .unset, .unset, .unset, .unset, .unset, .unset] [(.int (xs &&& (64 : Int32)))]) (fun _ kx_ => XS.iand X0.here hx rfl (hb hby at_87) rfl kx_) ?_
            refine W.ifc X0 hx (hb hby at_88) (pc' := 99) (pc'' := 91) (by decide) (by decide) rfl (fun (c88 : (xs &&& (64 : Int32)) = (0 : Int32)) => ?_) (fun (c88 : ¬ (xs &&& (64 : Int32)) = (0 : Int32)) => ?_)
            · refine W.gets X0 hx hZ hown (host := "") (Or.inl (hw _ (List.mem_of_getElem? (i := 2) rfl))) Via.refl e0 (Sta.ext O0.2 S_VALID) (hb hby at_99) (pc' := 102) rfl (fun T212 X212 e212 => ?_)
              refine W.s1 (mkF m 104 #[.val (.long y1), .second, .val (.long y2), .second, .val (.long y3), .second, .val (.long y4), .second, .val (.int xs), .val (.long (-9223372036854775808 : Int64)), .second, .val (.long (9223372036854775807 : Int64)), .second, .val (.long (-9223372036854775808 : Int64)), .second, .val (.long (9223372036854775807 : Int64)), .second, .val (.ref aV), .unset, .unset, .unset, .unset, .unset, .unset, .unset, .unset, .unset, .unset, .unset, .unset, .unset] []) (fun _ kx_ => XS.astore X212.here hx rfl (hb hby at_102) rfl rfl (l' := #[.val (.long y1), .second, .val (.long y2), .second, .val (.long y3), .second, .val (.long y4), .second, .val (.int xs), .val (.long (-9223372036854775808 : Int64)), .second, .val (.long (9223372036854775807 : Int64)), .second, .val (.long (-9223372036854775808 : Int64)), .second, .val (.long (9223372036854775807 : Int64)), .second, .val (.ref aV), .unset, .unset, .unset, .unset, .unset, .unset, .unset, .unset, .unset, .unset, .unset, .unset, .unset]) rfl kx_) ?_
              exact J104 _ _ _ _ _ _ X212 e212 E_VALID
            · refine W.gets X0 hx hZ hown (host := "") (Or.inl (hw _ (List.mem_of_getElem? (i := 89) rfl))) Via.refl e0 (Sta.ext O0.2 S_UNDECIDED) (hb hby at_91) (pc' := 94) rfl (fun T213 X213 e213 => ?_)
              refine W.s1 (mkF m 96 #[.val (.long y1), .second, .val (.long y2), .second, .val (.long y3), .second, .val (.long y4), .second, .val (.int xs), .val (.long (-9223372036854775808 : Int64)), .second, .val (.long (9223372036854775807 : Int64)), .second, .val (.long (-9223372036854775808 : Int64)), .second, .val (.long (9223372036854775807 : Int64)), .second, .val (.ref aU), .unset, .unset, .unset, .unset, .unset, .unset, .unset, .unset, .unset, .unset, .unset, .unset, .unset] []) (fun _ kx_ => XS.astore X213.here hx rfl (hb hby at_94) rfl rfl (l' := #[.val (.long y1), .second, .val (.long y2), .second, .val (.long y3), .second, .val (.long y4), .second, .val (.int xs), .val (.long (-9223372036854775808 : Int64)), .second, .val (.long (9223372036854775807 : Int64)), .second, .val (.long (-9223372036854775808 : Int64)), .second, .val (.long (9223372036854775807 : Int64)), .second, .val (.ref aU), .unset, .unset, .unset, .unset, .unset, .unset, .unset, .unset, .unset, .unset, .unset, .unset, .unset]) rfl kx_) ?_
              refine W.s1 (mkF m 104 #[.val (.long y1), .second, .val (.long y2), .second, .val (.long y3), .second, .val (.long y4), .second, .val (.int xs), .val (.long (-9223372036854775808 : Int64)), .second, .val (.long (9223372036854775807 : Int64)), .second, .val (.long (-9223372036854775808 : Int64)), .second, .val (.long (9223372036854775807 : Int64)), .second, .val (.ref aU), .unset, .unset, .unset, .unset, .unset, .unset, .unset, .unset, .unset, .unset, .unset, .unset, .unset] []) (fun _ kx_ => XS.goto X213.here hx rfl (pc0 := 96) (pc' := 104) rfl (hb hby at_96) (by decide) (by decide) kx_) ?_
              exact J104 _ _ _ _ _ _ X213 e213 E_UNDECIDED
          · refine W.gets X0 hx hZ hown (host := "") (Or.inl (hw _ (List.mem_of_getElem? (i := 87) rfl))) Via.refl e0 (Sta.ext O0.2 S_INVALID) (hb hby at_75) (pc' := 78) rfl (fun T214 X214 e214 => ?_)
            refine W.s1 (mkF m 80 #[.val (.long y1), .second, .val (.long y2), .second, .val (.long y3), .second, .val (.long y4), .second, .val (.int xs), .val (.long (-9223372036854775808 : Int64)), .second, .val (.long (9223372036854775807 : Int64)), .second, .val (.long (-9223372036854775808 : Int64)), .second, .val (.long (9223372036854775807 : Int64)), .second, .val (.ref aI), .unset, .unset, .unset, .unset, .unset, .unset, .unset, .unset, .unset, .unset, .unset, .unset, .unset] []) (fun _ kx_ => XS.astore X214.here hx rfl (hb hby at_78) rfl rfl (l' := #[.val (.long y1), .second, .val (.long y2), .second, .val (.long y3), .second, .val (.long y4), .second, .val (.int xs), .val (.long (-9223372036854775808 : Int64)), .second, .val (.long (9223372036854775807 : Int64)), .second, .val (.long (-9223372036854775808 : Int64)), .second, .val (.long (9223372036854775807 : Int64)), .second, .val (.ref aI), .unset, .unset, .unset, .unset, .unset, .unset, .unset, .unset, .unset, .unset, .unset, .unset, .unset]) rfl kx_) ?_
            refine W.s1 (mkF m 104 #[.val (.long y1), .second, .val (.long y2), .second, .val (.long y3), .second, .val (.long y4), .second, .val (.int xs), .val (.long (-9223372036854775808 : Int64)), .second, .val (.long (9223372036854775807 : Int64)), .second, .val (.long (-9223372036854775808 : Int64)), .second, .val (.long (9223372036854775807 : Int64)), .second, .val (.ref aI), .unset, .unset, .unset, .unset, .unset, .unset, .unset, .unset, .unset, .unset, .unset, .unset, .unset] []) (fun _ kx_ => XS.goto X214.here hx rfl (pc0 := 80) (pc' := 104) rfl (hb hby at_80) (by decide) (by decide) kx_) ?_
            exact J104 _ _ _ _ _ _ X214 e214 E_INVALID
set_option maxRecDepth 65536 in
set_option maxHeartbeats 40000000 in
theorem comes_1 {Post : Tables → Env → Array Value → State → Outcome → State → Prop} (hpost : ∀ tb e args s v u, (limb_1_1.after args s (.returned v) u = true ∧ limb_1_2.after args s (.returned v) u = true ∧ True) → FrameEnd s (.returned v) u (Jvm.fieldLocs frame_1_writes args s ++ Jvm.arrayLocs frame_1_arrays args s ++ Jvm.staticLocs frame_1_statics s) 40 256 → Post tb e args s (.returned v) u) :
    ArmFor flags0 classFile x code maxLocals ret World_1 tables_1 room_1 Calls_1 rest_1 Pre_1 Post := by
  intro l hfl _ _ p e ha hc hk s m args below hf hA hF happ hP
  obtain ⟨hcalls, hrest, hpre⟩ := hP
  obtain ⟨-, -, -, hnamed, -, -, -, hat⟩ := (Spec.applies_iff hf).mp happ
  obtain ⟨hg, hn⟩ := and_e (Cond.before_iff.mp (show (Jvm.Cond.and given_1 narrow_1).before args s = true from hpre))
  obtain ⟨gc, g0⟩ := and_e hg
  obtain ⟨w_0, g1⟩ := and_e g0
  obtain ⟨w_1, g2⟩ := and_e g1
  obtain ⟨w_2, g3⟩ := and_e g2
  obtain ⟨w_3, g4⟩ := and_e g3
  have w_4 := g4
  obtain ⟨w0, w1, w2, w3, w4, rfl⟩ : ∃ w0 w1 w2 w3 w4 : Value, args = #[w0, w1, w2, w3, w4] := by
    have hs : args.size = 5 := by simpa [Cond.value, given_1] using gc
    obtain ⟨L⟩ := args
    match L, hs with
    | [w0, w1, w2, w3, w4], _ => exact ⟨w0, w1, w2, w3, w4, rfl⟩
  have hw := fun d (hd : d ∈ tables_1) => atoms_spec (ws := Jvm.Cond.code x code maxLocals ret :: tables_1) hat d (List.mem_cons_of_mem _ hd)
  have hfit : Fit s := fun {y c} hc i hi => by
    obtain ⟨ha, rfl⟩ := Array.getElem?_eq_some_iff.mp hc
    have q := List.all_eq_true.mp ((Array.all_eq_true_iff_forall_mem.mp hF) _ (Array.getElem_mem ha)) i (List.mem_range.mpr hi)
    simpa [Array.getElem?_eq_getElem hi] using q
  obtain ⟨i0, ei0⟩ := isL_v w_0
  obtain rfl : w0 = (.long i0) := Option.some.inj ei0
  obtain ⟨i1, ei1⟩ := isL_v w_1
  obtain rfl : w1 = (.long i1) := Option.some.inj ei1
  obtain ⟨i2, ei2⟩ := isL_v w_2
  obtain rfl : w2 = (.long i2) := Option.some.inj ei2
  obtain ⟨i3, ei3⟩ := isL_v w_3
  obtain rfl : w3 = (.long i3) := Option.some.inj ei3
  obtain ⟨i4, ei4⟩ := is_v w_4
  obtain rfl : w4 = (.int i4) := Option.some.inj ei4
  obtain ⟨x1, q1⟩ := and_e hn
  obtain ⟨x2, x3⟩ := and_e q1
  obtain ⟨aV, v1⟩ := exa_v x1
  obtain ⟨aI, v2⟩ := exa_v x2
  obtain ⟨aU, v3⟩ := exa_v x3
  have S1 := Sta.start v1 (Or.inr ⟨(hw _ (List.mem_of_getElem? (i := 3) rfl)), (hw _ (List.mem_of_getElem? (i := 4) rfl))⟩)
  have S2 := Sta.start v2 (Or.inr ⟨(hw _ (List.mem_of_getElem? (i := 3) rfl)), (hw _ (List.mem_of_getElem? (i := 88) rfl))⟩)
  have S3 := Sta.start v3 (Or.inr ⟨(hw _ (List.mem_of_getElem? (i := 3) rfl)), (hw _ (List.mem_of_getElem? (i := 90) rfl))⟩)
  have E1 := Exa.start v1 x1
  have E2 := Exa.start v2 x2
  have E3 := Exa.start v3 x3
  obtain ⟨n, o, h1, h2, h3, _, L, rfl, ⟨rfl, N⟩, hq⟩ := rm0 l s _ hw tables_1 i0 i1 i2 i3 i4 aV aI aU s.heap s.heap.size (Nat.le_refl _) S1 S2 S3 E1 E2 E3 (Old.start s) p e ha hc hk s m _ below hf ((Spec.applies_iff_loose hf).mp happ).1 ⟨rfl, State.Warmed39.refl s, rfl⟩ trivial
  refine ⟨n, _, h1, h2, h3, hpost _ _ _ _ _ _ ⟨Cond.after_iff.mpr rfl, Cond.after_iff.mpr (eq_i res_at (Term.int_eval (1)) rfl), trivial⟩ ⟨hq.1, hq.2.1, (hq.2.2.sift fun y hy => Or.inr (N y hy)).mono (by decide) (by decide)⟩⟩
theorem main_1_1 : Claimed_1_1 := comes_1 fun _ _ _ _ _ _ h hF => ⟨h.1, hF⟩
theorem main_1_2 : Claimed_1_2 := comes_1 fun _ _ _ _ _ _ h hF => ⟨h.2.1, hF⟩
end Jvm.Pilot.@@N@@
namespace Jvm.Pilot.@@N@@
open Jvm Jvm.ClassFile Sem Op Lib Jvm.Free Jvm.Stand Jvm.Pilot.@@N@@.Jvm.D
/-! MADE BY PROGRAM (witnessworld.py) out of the Statement's table words and the real class files: 19 classes; the members and pool entries that the words name. The judged class is class 1, her method 3. -/
namespace start1
open Jvm.ClassFile
def u (s : String) : CpInfo := .utf8 (stringToUtf16 s)
/-- a pool by its gaps: so many unusable entries, then the entry; so many at the end -/
def gap : Nat → List CpInfo → List CpInfo
  | 0, r => r
  | n + 1, r => .unusable :: gap n r
def poolList (es : List (Nat × CpInfo)) (last : Nat) : List CpInfo := es.foldr (fun e r => gap e.1 (e.2 :: r)) (gap last [])
def pool (es : List (Nat × CpInfo)) (last : Nat) : Array CpInfo := ⟨poolList es last⟩
def fileOf (pool : Array CpInfo) (this : Nat) (attrs : Array Attribute := #[]) (ms : Array MethodInfo := #[]) (fl : Nat := 33) (sup : Nat := 0) (ifs : Array Nat := #[]) (fds : Array FieldInfo := #[]) : ClassFile where
  minorVersion := 0
  majorVersion := 65
  constantPool := pool
  accessFlags := fl
  thisClass := this
  superClass := sup
  interfaces := ifs
  fields := fds
  methods := ms
  attributes := attrs
def plain (name : String) (sup : Option ClassId) : Class where
  name := name
  kind := .ordinary
  loader := none
  accessFlags := 33
  super := sup
  interfaces := #[]
  cf := none
  fields := #[]
  methods := #[]
  instanceTypes := #[]
  staticTypes := #[]
  resolved := #[]
  callSites := []
  init := .initialized
  statics := none
  mirror := none

def pool0 : Array CpInfo := pool [(5, u "<init>"), (0, u "()V"), (1, .class_ 10), (1, u "java/lang/Object")] 113

def k0c0 : Code := { maxStack := 0, maxLocals := 1, code := object_method_1_code, exceptionTable := #[], attributes := #[] }
def k0m0 : Method := { name := "<init>", desc := "()V", sig := { parameters := [], returnType := none }, accessFlags := 1, code := some k0c0 }
/-- java/lang/Object -/
def k0 : Class := { plain "java/lang/Object" none with
  accessFlags := 33
  interfaces := #[]
  cf := some (fileOf pool0 8 #[] #[{ accessFlags := 1, nameIndex := 5, descriptorIndex := 6, attributes := #[] }] 33 0 #[] #[])
  fields := #[]
  methods := #[k0m0]
  instanceTypes := #[]
  staticTypes := #[]
  resolved := Array.replicate 124 none
  statics := none }

def pool1 : Array CpInfo := pool [(2, .class_ 4), (0, .nameAndType 5 6), (0, u "java/lang/Object"), (0, u "<init>"), (0, u "()V"), (2, .long 9223372036854775808), (1, .long 9223372036854775807), (1, .fieldref 14 15), (0, .class_ 16), (0, .nameAndType 17 18), (0, u "com/example/tempora/tempora/PointStatus"), (0, u "INVALID"), (0, u "Lcom/example/tempora/tempora/PointStatus;"), (0, .fieldref 14 20), (0, .nameAndType 21 18), (0, u "UNDECIDED"), (0, .fieldref 14 23), (0, .nameAndType 24 18), (0, u "VALID"), (0, .class_ 26), (0, u "com/example/tempora/tempora/DistanceGraph"), (0, .methodref 25 3), (0, .methodref 25 29), (0, .nameAndType 30 31), (0, u "addPoint"), (0, u "(Lcom/example/tempora/tempora/PointStatus;)I"), (0, .methodref 25 33), (0, .nameAndType 34 35), (0, u "addConstraint"), (0, u "(IIJJ)I"), (0, .methodref 25 37), (0, .nameAndType 38 39), (0, u "lengthIfValid"), (0, u "(IZ)J"), (0, .methodref 41 42), (0, .class_ 43), (0, .nameAndType 44 45), (0, u "com/example/tempora/tempora/DistanceGraphLengthIfValidPinLaw"), (0, u "fromOk"), (0, u "(JJ)Z"), (0, .methodref 41 47), (0, .nameAndType 48 45), (0, u "toOk"), (3, u "law"), (0, u "(JJJJI)Z")] 2

def k1m0 : Method := { name := "<init>", desc := "()V", sig := { parameters := [], returnType := none }, accessFlags := 1, code := none }
def k1c1 : Code := { maxStack := 4, maxLocals := 4, code := method_2_code, exceptionTable := #[], attributes := #[] }
def k1m1 : Method := { name := "fromOk", desc := "(JJ)Z", sig := { parameters := [.long, .long], returnType := some .boolean }, accessFlags := 10, code := some k1c1 }
def k1c2 : Code := { maxStack := 4, maxLocals := 4, code := method_3_code, exceptionTable := #[], attributes := #[] }
def k1m2 : Method := { name := "toOk", desc := "(JJ)Z", sig := { parameters := [.long, .long], returnType := some .boolean }, accessFlags := 10, code := some k1c2 }
def k1c3 : Code := { maxStack := 7, maxLocals := 31, code := code, exceptionTable := #[], attributes := #[] }
def k1m3 : Method := { name := "law", desc := "(JJJJI)Z", sig := { parameters := [.long, .long, .long, .long, .int], returnType := some .boolean }, accessFlags := 9, code := some k1c3 }
/-- com/example/tempora/tempora/DistanceGraphLengthIfValidPinLaw -/
def k1 : Class := { plain "com/example/tempora/tempora/DistanceGraphLengthIfValidPinLaw" (some 0) with
  accessFlags := 49
  interfaces := #[]
  cf := some (fileOf pool1 41 #[] #[{ accessFlags := 1, nameIndex := 5, descriptorIndex := 6, attributes := #[] }, { accessFlags := 10, nameIndex := 44, descriptorIndex := 45, attributes := #[] }, { accessFlags := 10, nameIndex := 48, descriptorIndex := 45, attributes := #[] }, { accessFlags := 9, nameIndex := 52, descriptorIndex := 53, attributes := #[] }] 49 2 #[] #[])
  fields := #[]
  methods := #[k1m0, k1m1, k1m2, k1m3]
  instanceTypes := #[]
  staticTypes := #[]
  resolved := Array.replicate 56 none
  statics := none }

def pool2 : Array CpInfo := pool [(1, .class_ 2), (0, u "java/lang/constant/Constable"), (0, .class_ 4), (0, u "java/lang/Object")] 6

/-- java/lang/constant/Constable -/
def k2 : Class := { plain "java/lang/constant/Constable" (some 0) with
  accessFlags := 1537
  interfaces := #[]
  cf := some (fileOf pool2 1 #[] #[] 1537 3 #[] #[])
  fields := #[]
  methods := #[]
  instanceTypes := #[]
  staticTypes := #[]
  resolved := Array.replicate 11 none
  statics := none }

def pool3 : Array CpInfo := pool [(1, .class_ 2), (0, u "java/lang/Comparable"), (0, .class_ 4), (0, u "java/lang/Object")] 7

/-- java/lang/Comparable -/
def k3 : Class := { plain "java/lang/Comparable" (some 0) with
  accessFlags := 1537
  interfaces := #[]
  cf := some (fileOf pool3 1 #[] #[] 1537 3 #[] #[])
  fields := #[]
  methods := #[]
  instanceTypes := #[]
  staticTypes := #[]
  resolved := Array.replicate 12 none
  statics := none }

def pool4 : Array CpInfo := pool [(1, .class_ 2), (0, u "java/io/Serializable"), (0, .class_ 4), (0, u "java/lang/Object")] 2

/-- java/io/Serializable -/
def k4 : Class := { plain "java/io/Serializable" (some 0) with
  accessFlags := 1537
  interfaces := #[]
  cf := some (fileOf pool4 1 #[] #[] 1537 3 #[] #[])
  fields := #[]
  methods := #[]
  instanceTypes := #[]
  staticTypes := #[]
  resolved := Array.replicate 7 none
  statics := none }

def pool5 : Array CpInfo := pool [(2, .class_ 4), (1, u "java/lang/Enum"), (0, u "name"), (0, u "Ljava/lang/String;"), (2, u "ordinal"), (0, u "I"), (1, .class_ 14), (1, u "java/lang/Object"), (4, u "hash"), (86, .class_ 108), (1, u "java/lang/Enum$EnumDesc"), (2, .class_ 112), (0, u "java/lang/constant/Constable"), (0, .class_ 114), (0, u "java/lang/Comparable"), (0, .class_ 116), (0, u "java/io/Serializable")] 87

/-- java/lang/Enum -/
def k5 : Class := { plain "java/lang/Enum" (some 0) with
  accessFlags := 1057
  interfaces := #[2, 3, 4]
  cf := some (fileOf pool5 2 #[.nestMembers #[106]] #[] 1057 12 #[111, 113, 115] #[{ accessFlags := 18, nameIndex := 5, descriptorIndex := 6, attributes := #[] }, { accessFlags := 18, nameIndex := 9, descriptorIndex := 10, attributes := #[] }, { accessFlags := 2, nameIndex := 19, descriptorIndex := 10, attributes := #[] }])
  fields := #[{ name := "name", type := (.object "java/lang/String"), accessFlags := 18, slot := 0, constantValue := 0 }, { name := "ordinal", type := .int, accessFlags := 18, slot := 1, constantValue := 0 }, { name := "hash", type := .int, accessFlags := 2, slot := 2, constantValue := 0 }]
  methods := #[]
  instanceTypes := #[(.object "java/lang/String"), .int, .int]
  staticTypes := #[]
  resolved := Array.replicate 204 none
  statics := none }

def pool6 : Array CpInfo := pool [(1, .class_ 2), (0, u "com/example/tempora/tempora/PointStatus"), (2, u "VALID"), (0, u "Lcom/example/tempora/tempora/PointStatus;"), (2, u "UNDECIDED"), (2, u "INVALID"), (2, u "$VALUES"), (0, u "[Lcom/example/tempora/tempora/PointStatus;"), (6, .class_ 25), (1, u "java/lang/Enum")] 25

/-- com/example/tempora/tempora/PointStatus -/
def k6 : Class := { plain "com/example/tempora/tempora/PointStatus" (some 5) with
  accessFlags := 16433
  interfaces := #[]
  cf := some (fileOf pool6 1 #[] #[] 16433 23 #[] #[{ accessFlags := 16409, nameIndex := 5, descriptorIndex := 6, attributes := #[] }, { accessFlags := 16409, nameIndex := 9, descriptorIndex := 6, attributes := #[] }, { accessFlags := 16409, nameIndex := 12, descriptorIndex := 6, attributes := #[] }, { accessFlags := 4122, nameIndex := 15, descriptorIndex := 16, attributes := #[] }])
  fields := #[{ name := "VALID", type := (.object "com/example/tempora/tempora/PointStatus"), accessFlags := 16409, slot := 0, constantValue := 0 }, { name := "UNDECIDED", type := (.object "com/example/tempora/tempora/PointStatus"), accessFlags := 16409, slot := 1, constantValue := 0 }, { name := "INVALID", type := (.object "com/example/tempora/tempora/PointStatus"), accessFlags := 16409, slot := 2, constantValue := 0 }, { name := "$VALUES", type := (.array (.object "com/example/tempora/tempora/PointStatus")), accessFlags := 4122, slot := 3, constantValue := 0 }]
  methods := #[]
  instanceTypes := #[(.object "java/lang/String"), .int, .int]
  staticTypes := #[(.object "com/example/tempora/tempora/PointStatus"), (.object "com/example/tempora/tempora/PointStatus"), (.object "com/example/tempora/tempora/PointStatus"), (.array (.object "com/example/tempora/tempora/PointStatus"))]
  resolved := Array.replicate 51 none
  statics := some 0 }

def pool7 : Array CpInfo := pool [(1, .methodref 2 3), (0, .class_ 4), (0, .nameAndType 5 6), (0, u "java/lang/Object"), (0, u "<init>"), (0, u "()V"), (0, .class_ 8), (0, u "com/example/tempora/tempora/DistanceGraph"), (0, .class_ 10), (0, u "[I"), (0, .fieldref 7 12), (0, .nameAndType 13 14), (0, u "incident"), (0, u "[[I"), (0, .fieldref 7 16), (0, .nameAndType 17 10), (0, u "degree"), (0, .class_ 19), (0, u "com/example/tempora/tempora/PointStatus"), (0, .fieldref 7 21), (0, .nameAndType 22 23), (0, u "status"), (0, u "[Lcom/example/tempora/tempora/PointStatus;"), (0, .fieldref 7 25), (0, .nameAndType 26 10), (0, u "free"), (0, .fieldref 7 28), (0, .nameAndType 29 10), (0, u "from"), (0, .fieldref 7 31), (0, .nameAndType 32 10), (0, u "to"), (0, .fieldref 7 34), (0, .nameAndType 35 36), (0, u "lo"), (0, u "[J"), (0, .fieldref 7 38), (0, .nameAndType 39 36), (0, u "hi"), (0, .fieldref 7 41), (0, .nameAndType 42 43), (0, u "pointCount"), (0, u "I"), (5, .class_ 51), (1, u "java/util/Arrays"), (0, u "copyOf"), (2, .methodref 49 56), (0, .nameAndType 52 57), (0, u "([II)[I"), (1, .fieldref 7 60), (0, .nameAndType 61 43), (0, u "freeCount"), (0, .fieldref 7 63), (0, .nameAndType 64 43), (0, u "constraintCount"), (3, .methodref 7 69), (0, .nameAndType 70 71), (0, u "attach"), (0, u "(II)V"), (12, .long 9223372036854775807), (3, u "lengthIfValid"), (0, u "(IZ)J"), (0, .long 9223372036854775808), (1, .methodref 93 94), (0, .class_ 95), (0, .nameAndType 96 97), (0, u "java/lang/Math"), (0, u "max"), (0, u "(II)I"), (12, u "LEAVING_FROM"), (0, u "[Z"), (0, u "INITIAL_CAPACITY"), (4, u "addPoint"), (0, u "(Lcom/example/tempora/tempora/PointStatus;)I"), (1, u "addConstraint"), (0, u "(IIJJ)I")] 15

def k7c0 : Code := { maxStack := 2, maxLocals := 1, code := prog_5_method_1_code, exceptionTable := #[], attributes := #[] }
def k7m0 : Method := { name := "<init>", desc := "()V", sig := { parameters := [], returnType := none }, accessFlags := 0, code := some k7c0 }
def k7c1 : Code := { maxStack := 4, maxLocals := 2, code := prog_5_method_2_code, exceptionTable := #[], attributes := #[] }
def k7m1 : Method := { name := "addPoint", desc := "(Lcom/example/tempora/tempora/PointStatus;)I", sig := { parameters := [(.object "com/example/tempora/tempora/PointStatus")], returnType := some .int }, accessFlags := 0, code := some k7c1 }
def k7c2 : Code := { maxStack := 4, maxLocals := 9, code := prog_5_method_3_code, exceptionTable := #[], attributes := #[] }
def k7m2 : Method := { name := "addConstraint", desc := "(IIJJ)I", sig := { parameters := [.int, .int, .long, .long], returnType := some .int }, accessFlags := 0, code := some k7c2 }
def k7c3 : Code := { maxStack := 4, maxLocals := 3, code := prog_5_method_17_code, exceptionTable := #[], attributes := #[] }
def k7m3 : Method := { name := "lengthIfValid", desc := "(IZ)J", sig := { parameters := [.int, .boolean], returnType := some .long }, accessFlags := 0, code := some k7c3 }
def k7c4 : Code := { maxStack := 7, maxLocals := 3, code := prog_5_method_18_code, exceptionTable := #[], attributes := #[] }
def k7m4 : Method := { name := "attach", desc := "(II)V", sig := { parameters := [.int, .int], returnType := none }, accessFlags := 2, code := some k7c4 }
/-- com/example/tempora/tempora/DistanceGraph -/
def k7 : Class := { plain "com/example/tempora/tempora/DistanceGraph" (some 0) with
  accessFlags := 48
  interfaces := #[]
  cf := some (fileOf pool7 7 #[] #[{ accessFlags := 0, nameIndex := 5, descriptorIndex := 6, attributes := #[] }, { accessFlags := 0, nameIndex := 117, descriptorIndex := 118, attributes := #[] }, { accessFlags := 0, nameIndex := 120, descriptorIndex := 121, attributes := #[] }, { accessFlags := 0, nameIndex := 88, descriptorIndex := 89, attributes := #[] }, { accessFlags := 2, nameIndex := 70, descriptorIndex := 71, attributes := #[] }] 48 2 #[] #[{ accessFlags := 24, nameIndex := 110, descriptorIndex := 111, attributes := #[] }, { accessFlags := 26, nameIndex := 112, descriptorIndex := 43, attributes := #[] }, { accessFlags := 2, nameIndex := 42, descriptorIndex := 43, attributes := #[] }, { accessFlags := 2, nameIndex := 13, descriptorIndex := 14, attributes := #[] }, { accessFlags := 2, nameIndex := 17, descriptorIndex := 10, attributes := #[] }, { accessFlags := 2, nameIndex := 22, descriptorIndex := 23, attributes := #[] }, { accessFlags := 2, nameIndex := 64, descriptorIndex := 43, attributes := #[] }, { accessFlags := 2, nameIndex := 26, descriptorIndex := 10, attributes := #[] }, { accessFlags := 2, nameIndex := 61, descriptorIndex := 43, attributes := #[] }, { accessFlags := 2, nameIndex := 29, descriptorIndex := 10, attributes := #[] }, { accessFlags := 2, nameIndex := 32, descriptorIndex := 10, attributes := #[] }, { accessFlags := 2, nameIndex := 35, descriptorIndex := 36, attributes := #[] }, { accessFlags := 2, nameIndex := 39, descriptorIndex := 36, attributes := #[] }])
  fields := #[{ name := "LEAVING_FROM", type := (.array .boolean), accessFlags := 24, slot := 0, constantValue := 0 }, { name := "INITIAL_CAPACITY", type := .int, accessFlags := 26, slot := 1, constantValue := 0 }, { name := "pointCount", type := .int, accessFlags := 2, slot := 0, constantValue := 0 }, { name := "incident", type := (.array (.array .int)), accessFlags := 2, slot := 1, constantValue := 0 }, { name := "degree", type := (.array .int), accessFlags := 2, slot := 2, constantValue := 0 }, { name := "status", type := (.array (.object "com/example/tempora/tempora/PointStatus")), accessFlags := 2, slot := 3, constantValue := 0 }, { name := "constraintCount", type := .int, accessFlags := 2, slot := 4, constantValue := 0 }, { name := "free", type := (.array .int), accessFlags := 2, slot := 5, constantValue := 0 }, { name := "freeCount", type := .int, accessFlags := 2, slot := 6, constantValue := 0 }, { name := "from", type := (.array .int), accessFlags := 2, slot := 7, constantValue := 0 }, { name := "to", type := (.array .int), accessFlags := 2, slot := 8, constantValue := 0 }, { name := "lo", type := (.array .long), accessFlags := 2, slot := 9, constantValue := 0 }, { name := "hi", type := (.array .long), accessFlags := 2, slot := 10, constantValue := 0 }]
  methods := #[k7m0, k7m1, k7m2, k7m3, k7m4]
  instanceTypes := #[.int, (.array (.array .int)), (.array .int), (.array (.object "com/example/tempora/tempora/PointStatus")), .int, (.array .int), .int, (.array .int), (.array .int), (.array .long), (.array .long)]
  staticTypes := #[(.array .boolean), .int]
  resolved := Array.replicate 137 none
  statics := none }

def pool8 : Array CpInfo := pool [(1, .class_ 2), (0, u "java/lang/Math"), (1, .class_ 6), (1, u "java/lang/Object"), (0, u "<init>"), (0, u "()V"), (89, .class_ 100), (1, u "java/lang/Math$RandomNumberGeneratorHolder"), (71, u "negativeZeroFloatBits"), (0, u "J"), (2, u "negativeZeroDoubleBits"), (21, u "max"), (2, u "min"), (43, u "$assertionsDisabled"), (0, u "Z"), (88, u "(II)I"), (2, u "twoToTheDoubleScaleDown"), (0, u "D"), (4, u "twoToTheDoubleScaleUp"), (9, u "E"), (3, u "PI"), (2, u "TAU"), (2, u "DEGREES_TO_RADIANS"), (0, u "RADIANS_TO_DEGREES")] 94

def k8m0 : Method := { name := "<init>", desc := "()V", sig := { parameters := [], returnType := none }, accessFlags := 2, code := none }
def k8c1 : Code := { maxStack := 2, maxLocals := 2, code := jdk_29_method_65_code, exceptionTable := #[], attributes := #[] }
def k8m1 : Method := { name := "max", desc := "(II)I", sig := { parameters := [.int, .int], returnType := some .int }, accessFlags := 9, code := some k8c1 }
def k8c2 : Code := { maxStack := 2, maxLocals := 2, code := jdk_29_method_69_code, exceptionTable := #[], attributes := #[] }
def k8m2 : Method := { name := "min", desc := "(II)I", sig := { parameters := [.int, .int], returnType := some .int }, accessFlags := 9, code := some k8c2 }
/-- java/lang/Math -/
def k8 : Class := { plain "java/lang/Math" (some 0) with
  accessFlags := 49
  interfaces := #[]
  cf := some (fileOf pool8 1 #[.nestMembers #[98]] #[{ accessFlags := 2, nameIndex := 7, descriptorIndex := 8, attributes := #[] }, { accessFlags := 9, nameIndex := 198, descriptorIndex := 335, attributes := #[] }, { accessFlags := 9, nameIndex := 201, descriptorIndex := 335, attributes := #[] }] 49 4 #[] #[{ accessFlags := 25, nameIndex := 354, descriptorIndex := 339, attributes := #[] }, { accessFlags := 25, nameIndex := 358, descriptorIndex := 339, attributes := #[] }, { accessFlags := 25, nameIndex := 361, descriptorIndex := 339, attributes := #[] }, { accessFlags := 26, nameIndex := 364, descriptorIndex := 339, attributes := #[] }, { accessFlags := 26, nameIndex := 365, descriptorIndex := 339, attributes := #[] }, { accessFlags := 26, nameIndex := 172, descriptorIndex := 173, attributes := #[] }, { accessFlags := 26, nameIndex := 176, descriptorIndex := 173, attributes := #[] }, { accessFlags := 8, nameIndex := 344, descriptorIndex := 339, attributes := #[] }, { accessFlags := 8, nameIndex := 338, descriptorIndex := 339, attributes := #[] }, { accessFlags := 4120, nameIndex := 245, descriptorIndex := 246, attributes := #[] }])
  fields := #[{ name := "E", type := .double, accessFlags := 25, slot := 0, constantValue := 0 }, { name := "PI", type := .double, accessFlags := 25, slot := 1, constantValue := 0 }, { name := "TAU", type := .double, accessFlags := 25, slot := 2, constantValue := 0 }, { name := "DEGREES_TO_RADIANS", type := .double, accessFlags := 26, slot := 3, constantValue := 0 }, { name := "RADIANS_TO_DEGREES", type := .double, accessFlags := 26, slot := 4, constantValue := 0 }, { name := "negativeZeroFloatBits", type := .long, accessFlags := 26, slot := 5, constantValue := 0 }, { name := "negativeZeroDoubleBits", type := .long, accessFlags := 26, slot := 6, constantValue := 0 }, { name := "twoToTheDoubleScaleUp", type := .double, accessFlags := 8, slot := 7, constantValue := 0 }, { name := "twoToTheDoubleScaleDown", type := .double, accessFlags := 8, slot := 8, constantValue := 0 }, { name := "$assertionsDisabled", type := .boolean, accessFlags := 4120, slot := 9, constantValue := 0 }]
  methods := #[k8m0, k8m1, k8m2]
  instanceTypes := #[]
  staticTypes := #[.double, .double, .double, .double, .double, .long, .long, .double, .double, .boolean]
  resolved := Array.replicate 460 none
  statics := none }

def pool9 : Array CpInfo := pool [(2, .class_ 4), (1, u "java/lang/Object"), (0, u "<init>"), (0, u "()V"), (7, .class_ 16), (1, u "java/util/Arrays"), (57, .class_ 76), (1, u "java/util/Arrays$NaturalOrder"), (36, .class_ 115), (1, u "java/util/Arrays$LegacyMergeSort"), (1, u "Z"), (32, .methodref 151 152), (0, .class_ 153), (0, .nameAndType 154 155), (0, u "java/lang/System"), (0, u "arraycopy"), (0, u "(Ljava/lang/Object;ILjava/lang/Object;II)V"), (146, u "copyOf"), (1, .methodref 305 306), (0, .class_ 307), (0, .nameAndType 308 309), (0, u "java/lang/Math"), (0, u "min"), (0, u "(II)I"), (65, .class_ 376), (0, u "java/util/Arrays$ArrayList"), (68, u "$assertionsDisabled"), (269, u "MIN_ARRAY_SORT_GRAN"), (0, u "I"), (2, u "INSERTIONSORT_THRESHOLD"), (151, u "([II)[I"), (103, .class_ 976), (0, u "java/util/Arrays$ArrayItr")] 52

def k9m0 : Method := { name := "<init>", desc := "()V", sig := { parameters := [], returnType := none }, accessFlags := 2, code := none }
def k9c1 : Code := { maxStack := 6, maxLocals := 3, code := jdk_65_method_123_code, exceptionTable := #[], attributes := #[] }
def k9m1 : Method := { name := "copyOf", desc := "([II)[I", sig := { parameters := [(.array .int), .int], returnType := some (.array .int) }, accessFlags := 9, code := some k9c1 }
/-- java/util/Arrays -/
def k9 : Class := { plain "java/util/Arrays" (some 0) with
  accessFlags := 49
  interfaces := #[]
  cf := some (fileOf pool9 14 #[.nestMembers #[975, 375, 113, 74]] #[{ accessFlags := 2, nameIndex := 5, descriptorIndex := 6, attributes := #[] }, { accessFlags := 9, nameIndex := 302, descriptorIndex := 871, attributes := #[] }] 49 2 #[] #[{ accessFlags := 26, nameIndex := 715, descriptorIndex := 716, attributes := #[] }, { accessFlags := 26, nameIndex := 719, descriptorIndex := 716, attributes := #[] }, { accessFlags := 4120, nameIndex := 445, descriptorIndex := 117, attributes := #[] }])
  fields := #[{ name := "MIN_ARRAY_SORT_GRAN", type := .int, accessFlags := 26, slot := 0, constantValue := 0 }, { name := "INSERTIONSORT_THRESHOLD", type := .int, accessFlags := 26, slot := 1, constantValue := 0 }, { name := "$assertionsDisabled", type := .boolean, accessFlags := 4120, slot := 2, constantValue := 0 }]
  methods := #[k9m0, k9m1]
  instanceTypes := #[]
  staticTypes := #[.int, .int, .boolean]
  resolved := Array.replicate 1029 none
  statics := none }

def pool10 : Array CpInfo := pool [(2, .class_ 4), (1, u "java/lang/Object"), (0, u "<init>"), (0, u "()V"), (1, .class_ 10), (1, u "java/lang/System"), (0, u "allowSecurityManager"), (0, u "I"), (16, u "cons"), (0, u "Ljava/io/Console;"), (77, .class_ 110), (1, u "java/lang/System$CallersHolder"), (43, u "initialErrStream"), (0, u "Ljava/io/PrintStream;"), (19, u "security"), (0, u "Ljava/lang/SecurityManager;"), (31, .class_ 209), (0, u "java/lang/System$1"), (7, u "props"), (0, u "Ljava/util/Properties;"), (2, u "lineSeparator"), (0, u "Ljava/lang/String;"), (96, .class_ 321), (1, u "java/lang/System$LoggerFinder"), (5, .class_ 328), (0, u "java/lang/System$Logger"), (67, u "err"), (2, u "out"), (91, u "notSupportedJnuEncoding"), (15, u "in"), (17, u "initialIn"), (0, u "Ljava/io/InputStream;"), (35, u "bootLayer"), (0, u "Ljava/lang/ModuleLayer;"), (99, .class_ 664), (0, u "java/lang/System$2"), (9, u "NEVER"), (2, u "MAYBE"), (49, u "arraycopy"), (0, u "(Ljava/lang/Object;ILjava/lang/Object;II)V"), (72, .class_ 802), (0, u "java/lang/System$Logger$Level")] 31

def k10m0 : Method := { name := "<init>", desc := "()V", sig := { parameters := [], returnType := none }, accessFlags := 2, code := none }
def k10m1 : Method := { name := "arraycopy", desc := "(Ljava/lang/Object;ILjava/lang/Object;II)V", sig := { parameters := [(.object "java/lang/Object"), .int, (.object "java/lang/Object"), .int, .int], returnType := none }, accessFlags := 265, code := none }
/-- java/lang/System -/
def k10 : Class := { plain "java/lang/System" (some 0) with
  accessFlags := 49
  interfaces := #[]
  cf := some (fileOf pool10 8 #[.nestMembers #[319, 327, 801, 108, 663, 208]] #[{ accessFlags := 2, nameIndex := 5, descriptorIndex := 6, attributes := #[] }, { accessFlags := 265, nameIndex := 727, descriptorIndex := 728, attributes := #[] }] 49 2 #[] #[{ accessFlags := 25, nameIndex := 507, descriptorIndex := 526, attributes := #[] }, { accessFlags := 25, nameIndex := 399, descriptorIndex := 155, attributes := #[] }, { accessFlags := 25, nameIndex := 396, descriptorIndex := 155, attributes := #[] }, { accessFlags := 10, nameIndex := 525, descriptorIndex := 526, attributes := #[] }, { accessFlags := 26, nameIndex := 674, descriptorIndex := 12, attributes := #[] }, { accessFlags := 26, nameIndex := 677, descriptorIndex := 12, attributes := #[] }, { accessFlags := 10, nameIndex := 11, descriptorIndex := 12, attributes := #[] }, { accessFlags := 74, nameIndex := 175, descriptorIndex := 176, attributes := #[] }, { accessFlags := 10, nameIndex := 491, descriptorIndex := 222, attributes := #[] }, { accessFlags := 74, nameIndex := 29, descriptorIndex := 30, attributes := #[] }, { accessFlags := 74, nameIndex := 154, descriptorIndex := 155, attributes := #[] }, { accessFlags := 10, nameIndex := 217, descriptorIndex := 218, attributes := #[] }, { accessFlags := 10, nameIndex := 221, descriptorIndex := 222, attributes := #[] }, { accessFlags := 8, nameIndex := 562, descriptorIndex := 563, attributes := #[] }])
  fields := #[{ name := "in", type := (.object "java/io/InputStream"), accessFlags := 25, slot := 0, constantValue := 0 }, { name := "out", type := (.object "java/io/PrintStream"), accessFlags := 25, slot := 1, constantValue := 0 }, { name := "err", type := (.object "java/io/PrintStream"), accessFlags := 25, slot := 2, constantValue := 0 }, { name := "initialIn", type := (.object "java/io/InputStream"), accessFlags := 10, slot := 3, constantValue := 0 }, { name := "NEVER", type := .int, accessFlags := 26, slot := 4, constantValue := 0 }, { name := "MAYBE", type := .int, accessFlags := 26, slot := 5, constantValue := 0 }, { name := "allowSecurityManager", type := .int, accessFlags := 10, slot := 6, constantValue := 0 }, { name := "security", type := (.object "java/lang/SecurityManager"), accessFlags := 74, slot := 7, constantValue := 0 }, { name := "notSupportedJnuEncoding", type := (.object "java/lang/String"), accessFlags := 10, slot := 8, constantValue := 0 }, { name := "cons", type := (.object "java/io/Console"), accessFlags := 74, slot := 9, constantValue := 0 }, { name := "initialErrStream", type := (.object "java/io/PrintStream"), accessFlags := 74, slot := 10, constantValue := 0 }, { name := "props", type := (.object "java/util/Properties"), accessFlags := 10, slot := 11, constantValue := 0 }, { name := "lineSeparator", type := (.object "java/lang/String"), accessFlags := 10, slot := 12, constantValue := 0 }, { name := "bootLayer", type := (.object "java/lang/ModuleLayer"), accessFlags := 8, slot := 13, constantValue := 0 }]
  methods := #[k10m0, k10m1]
  instanceTypes := #[]
  staticTypes := #[(.object "java/io/InputStream"), (.object "java/io/PrintStream"), (.object "java/io/PrintStream"), (.object "java/io/InputStream"), .int, .int, .int, (.object "java/lang/SecurityManager"), (.object "java/lang/String"), (.object "java/io/Console"), (.object "java/io/PrintStream"), (.object "java/util/Properties"), (.object "java/lang/String"), (.object "java/lang/ModuleLayer")]
  resolved := Array.replicate 834 none
  statics := none }

def pool11 : Array CpInfo := pool [(1, u "java/lang/Cloneable"), (0, .class_ 1), (0, u "java/lang/Object"), (0, .class_ 3)] 3

/-- java/lang/Cloneable -/
def k11 : Class := { plain "java/lang/Cloneable" (some 0) with
  accessFlags := 1537
  interfaces := #[]
  cf := some (fileOf pool11 2 #[] #[] 1537 4 #[] #[])
  fields := #[]
  methods := #[]
  instanceTypes := #[]
  staticTypes := #[]
  resolved := Array.replicate 8 none
  statics := none }

/-- the primitive byte -/
def k12 : Class := { plain "byte" none with kind := .primitive 'B', accessFlags := 0x411 }
/-- [B -/
def k13 : Class := { plain "[B" (some 0) with kind := .array 12 .byte, interfaces := #[11, 4], accessFlags := 1041 }

/-- the primitive int -/
def k14 : Class := { plain "int" none with kind := .primitive 'I', accessFlags := 0x411 }
/-- [I -/
def k15 : Class := { plain "[I" (some 0) with kind := .array 14 .int, interfaces := #[11, 4], accessFlags := 1041 }

/-- the primitive long -/
def k16 : Class := { plain "long" none with kind := .primitive 'J', accessFlags := 0x411 }
/-- [J -/
def k17 : Class := { plain "[J" (some 0) with kind := .array 16 .long, interfaces := #[11, 4], accessFlags := 1041 }

/-- [Lcom/example/tempora/tempora/PointStatus; -/
def k18 : Class := { plain "[Lcom/example/tempora/tempora/PointStatus;" (some 0) with kind := .array 6 (.object "com/example/tempora/tempora/PointStatus"), interfaces := #[11, 4], accessFlags := 1041 }

def heap : Heap := #[{ cls := 6, slots := #[.ref 1, .ref 3, .ref 2, .null], vm := .statics 6 },
  { cls := 6, slots := #[.null, .int 0, .int 0], vm := .none },
  { cls := 6, slots := #[.null, .int 1, .int 0], vm := .none },
  { cls := 6, slots := #[.null, .int 2, .int 0], vm := .none }]
/-- [[I -/
def k19 : Class := { plain "[[I" (some 0) with kind := .array 15 (.array .int), interfaces := #[11, 4], accessFlags := 1041 }
def classes : Array Class := #[k0, k1, k2, k3, k4, k5, k6, k7, k8, k9, k10, k11, k12, k13, k14, k15, k16, k17, k18, k19]
def interned : List (Array UInt16 × Addr) := []
def slotsUsed : Nat := 13
def theMethod : MethodId := ⟨1, 3⟩
def args0 : Array Value := #[.long 1, .long 2, .long 3, .long 4, .int 5]
def aboutOver (below : List Frame) : State where
  vm := { classes := classes, interned := interned.toArray }
  heap := heap
  slotsUsed := slotsUsed
  threads := #[{ frames := .invoking theMethod args0 :: below }]
def below0 : List Frame := [.native { method := ⟨0, 0⟩, args := #[] }]
def about1 : State := aboutOver below0
def p0 : Program := .bare "" "" ""
def e0 : Env := launch0.env 0 0 0
theorem w_frames : about1.frames = Frame.invoking theMethod args0 :: below0 := rfl
set_option maxRecDepth 65536 in
theorem w_args : argsFit about1.vm theMethod args0 = true := by decide +kernel
set_option maxRecDepth 65536 in
theorem w_heap : heapFits about1 = true := by decide +kernel
set_option maxRecDepth 65536 in
theorem w_runnable : about1.curStatus? = some .runnable := by decide +kernel
set_option maxRecDepth 65536 in
theorem w_alone : about1.alone = true := by decide +kernel
set_option maxRecDepth 65536 in
theorem w_named : about1.methodNamed? x = some theMethod := by decide +kernel
set_option maxRecDepth 65536 in
theorem w_hears : about1.hears theMethod below0 = true := by decide +kernel
set_option maxRecDepth 65536 in
theorem w_ripe : about1.ripe theMethod args0 below0 = true := by decide +kernel
theorem w_running : about1.status = .running := rfl
set_option maxRecDepth 65536 in
theorem w_room : about1.hasRoom e0.platform room_1 = true :=
  launch0.hasRoom_least _ room_1 (by decide +kernel) (by decide +kernel) (by decide +kernel) (by decide +kernel) (by decide +kernel) (by decide +kernel)
theorem allAtoms_all (ts : List Jvm.Cond) (a : Array Jvm.Value) (st : Jvm.State) : (allAtoms ts).before a st = ts.all (fun c => c.before a st) := by
  induction ts with
  | nil => rfl
  | cons c t ih =>
    show (Jvm.Cond.and c (allAtoms t)).before a st = _
    rw [Jvm.Cond.before_and, ih, List.all_cons]
def words1 : List Jvm.Cond := Jvm.Cond.code x code maxLocals ret :: tables_1
/-- a 'code' word, met by the world's own term for the bytes: nothing is compared byte by byte -/
theorem code_word {y : MethodName} {bytes : ByteArray} {mx : Nat} {rt : Option FieldType} {a : Array Value} {s : State} {m : MethodId} {meth : Method} {c : Code} (h1 : s.methodNamed? y = some m) (h2 : s.vm.method? m = some meth) (h3 : meth.code = some c) (h4 : c.code = bytes)
    (h5 : (c.maxLocals == mx && c.exceptionTable.isEmpty && decide (c.maxStack ≤ mostOperands) && decide (meth.sig.returnType = rt) && !meth.locks && decide (parseMethodDescriptor y.desc = some meth.sig)) = true) : (Jvm.Cond.code y bytes mx rt).before a s = true := by
  simp only [Bool.and_eq_true, beq_iff_eq, Bool.not_eq_true', decide_eq_true_eq] at h5
  obtain ⟨⟨⟨⟨⟨g1, g2⟩, g3⟩, g4⟩, g5⟩, g6⟩ := h5
  simp [Cond.before, Cond.holds, Cond.value, h1, h2, h3, h4, g1, g2, g3, g4, g5, g6]
def isCode : Jvm.Cond → Bool
  | .code _ _ _ _ => true
  | _ => false
theorem all_split {L : List Jvm.Cond} {P : Jvm.Cond → Bool} (h1 : L.all (fun c => isCode c || P c) = true) (h2 : ∀ c ∈ L.filter isCode, P c = true) : L.all P = true := by
  refine List.all_eq_true.mpr fun c hc => ?_
  have h := List.all_eq_true.mp h1 c hc
  rcases Bool.eq_false_or_eq_true (isCode c) with hi | hi
  · exact h2 c (List.mem_filter.mpr ⟨hc, hi⟩)
  · simpa [hi] using h
set_option maxRecDepth 65536 in
theorem w_c0 : (Jvm.Cond.code x code maxLocals ret).before args0 about1 = true := code_word (m := ⟨1, 3⟩) (meth := k1m3) (c := k1c3) (by decide +kernel) rfl rfl rfl (by decide +kernel)
set_option maxRecDepth 65536 in
theorem w_c1 : (Jvm.Cond.code ({ cls := "com/example/tempora/tempora/DistanceGraph", name := "<init>", desc := "()V" } : Jvm.MethodName) prog_5_method_1_code (1 : Nat) (Option.none : Option Jvm.ClassFile.FieldType)).before args0 about1 = true := code_word (m := ⟨7, 0⟩) (meth := k7m0) (c := k7c0) (by decide +kernel) rfl rfl rfl (by decide +kernel)
set_option maxRecDepth 65536 in
theorem w_c2 : (Jvm.Cond.code ({ cls := "java/lang/Object", name := "<init>", desc := "()V" } : Jvm.MethodName) object_method_1_code (1 : Nat) (Option.none : Option Jvm.ClassFile.FieldType)).before args0 about1 = true := code_word (m := ⟨0, 0⟩) (meth := k0m0) (c := k0c0) (by decide +kernel) rfl rfl rfl (by decide +kernel)
set_option maxRecDepth 65536 in
theorem w_c3 : (Jvm.Cond.code ({ cls := "com/example/tempora/tempora/DistanceGraph", name := "addPoint", desc := "(Lcom/example/tempora/tempora/PointStatus;)I" } : Jvm.MethodName) prog_5_method_2_code (2 : Nat) (Option.some Jvm.ClassFile.FieldType.int)).before args0 about1 = true := code_word (m := ⟨7, 1⟩) (meth := k7m1) (c := k7c1) (by decide +kernel) rfl rfl rfl (by decide +kernel)
set_option maxRecDepth 65536 in
theorem w_c4 : (Jvm.Cond.code ({ cls := "com/example/tempora/tempora/DistanceGraph", name := "addConstraint", desc := "(IIJJ)I" } : Jvm.MethodName) prog_5_method_3_code (9 : Nat) (Option.some Jvm.ClassFile.FieldType.int)).before args0 about1 = true := code_word (m := ⟨7, 2⟩) (meth := k7m2) (c := k7c2) (by decide +kernel) rfl rfl rfl (by decide +kernel)
set_option maxRecDepth 65536 in
theorem w_c5 : (Jvm.Cond.code ({ cls := "com/example/tempora/tempora/DistanceGraph", name := "attach", desc := "(II)V" } : Jvm.MethodName) prog_5_method_18_code (3 : Nat) (Option.none : Option Jvm.ClassFile.FieldType)).before args0 about1 = true := code_word (m := ⟨7, 4⟩) (meth := k7m4) (c := k7c4) (by decide +kernel) rfl rfl rfl (by decide +kernel)
set_option maxRecDepth 65536 in
theorem w_c6 : (Jvm.Cond.code ({ cls := "java/lang/Math", name := "max", desc := "(II)I" } : Jvm.MethodName) jdk_29_method_65_code (2 : Nat) (Option.some Jvm.ClassFile.FieldType.int)).before args0 about1 = true := code_word (m := ⟨8, 1⟩) (meth := k8m1) (c := k8c1) (by decide +kernel) rfl rfl rfl (by decide +kernel)
set_option maxRecDepth 65536 in
theorem w_c7 : (Jvm.Cond.code ({ cls := "java/util/Arrays", name := "copyOf", desc := "([II)[I" } : Jvm.MethodName) jdk_65_method_123_code (3 : Nat) (Option.some (Jvm.ClassFile.FieldType.array Jvm.ClassFile.FieldType.int))).before args0 about1 = true := code_word (m := ⟨9, 1⟩) (meth := k9m1) (c := k9c1) (by decide +kernel) rfl rfl rfl (by decide +kernel)
set_option maxRecDepth 65536 in
theorem w_c8 : (Jvm.Cond.code ({ cls := "java/lang/Math", name := "min", desc := "(II)I" } : Jvm.MethodName) jdk_29_method_69_code (2 : Nat) (Option.some Jvm.ClassFile.FieldType.int)).before args0 about1 = true := code_word (m := ⟨8, 2⟩) (meth := k8m2) (c := k8c2) (by decide +kernel) rfl rfl rfl (by decide +kernel)
set_option maxRecDepth 65536 in
theorem w_c9 : (Jvm.Cond.code ({ cls := "com/example/tempora/tempora/DistanceGraph", name := "lengthIfValid", desc := "(IZ)J" } : Jvm.MethodName) prog_5_method_17_code (3 : Nat) (Option.some Jvm.ClassFile.FieldType.long)).before args0 about1 = true := code_word (m := ⟨7, 3⟩) (meth := k7m3) (c := k7c3) (by decide +kernel) rfl rfl rfl (by decide +kernel)
set_option maxRecDepth 65536 in
theorem w_c10 : (Jvm.Cond.code ({ cls := "com/example/tempora/tempora/DistanceGraphLengthIfValidPinLaw", name := "fromOk", desc := "(JJ)Z" } : Jvm.MethodName) method_2_code (4 : Nat) (Option.some Jvm.ClassFile.FieldType.boolean)).before args0 about1 = true := code_word (m := ⟨1, 1⟩) (meth := k1m1) (c := k1c1) (by decide +kernel) rfl rfl rfl (by decide +kernel)
set_option maxRecDepth 65536 in
theorem w_c11 : (Jvm.Cond.code ({ cls := "com/example/tempora/tempora/DistanceGraphLengthIfValidPinLaw", name := "toOk", desc := "(JJ)Z" } : Jvm.MethodName) method_3_code (4 : Nat) (Option.some Jvm.ClassFile.FieldType.boolean)).before args0 about1 = true := code_word (m := ⟨1, 2⟩) (meth := k1m2) (c := k1c2) (by decide +kernel) rfl rfl rfl (by decide +kernel)
def codes1 : List Jvm.Cond := [Jvm.Cond.code x code maxLocals ret, Jvm.Cond.code ({ cls := "com/example/tempora/tempora/DistanceGraph", name := "<init>", desc := "()V" } : Jvm.MethodName) prog_5_method_1_code (1 : Nat) (Option.none : Option Jvm.ClassFile.FieldType), Jvm.Cond.code ({ cls := "java/lang/Object", name := "<init>", desc := "()V" } : Jvm.MethodName) object_method_1_code (1 : Nat) (Option.none : Option Jvm.ClassFile.FieldType), Jvm.Cond.code ({ cls := "com/example/tempora/tempora/DistanceGraph", name := "addPoint", desc := "(Lcom/example/tempora/tempora/PointStatus;)I" } : Jvm.MethodName) prog_5_method_2_code (2 : Nat) (Option.some Jvm.ClassFile.FieldType.int), Jvm.Cond.code ({ cls := "com/example/tempora/tempora/DistanceGraph", name := "addConstraint", desc := "(IIJJ)I" } : Jvm.MethodName) prog_5_method_3_code (9 : Nat) (Option.some Jvm.ClassFile.FieldType.int), Jvm.Cond.code ({ cls := "com/example/tempora/tempora/DistanceGraph", name := "attach", desc := "(II)V" } : Jvm.MethodName) prog_5_method_18_code (3 : Nat) (Option.none : Option Jvm.ClassFile.FieldType), Jvm.Cond.code ({ cls := "java/lang/Math", name := "max", desc := "(II)I" } : Jvm.MethodName) jdk_29_method_65_code (2 : Nat) (Option.some Jvm.ClassFile.FieldType.int), Jvm.Cond.code ({ cls := "java/util/Arrays", name := "copyOf", desc := "([II)[I" } : Jvm.MethodName) jdk_65_method_123_code (3 : Nat) (Option.some (Jvm.ClassFile.FieldType.array Jvm.ClassFile.FieldType.int)), Jvm.Cond.code ({ cls := "java/lang/Math", name := "min", desc := "(II)I" } : Jvm.MethodName) jdk_29_method_69_code (2 : Nat) (Option.some Jvm.ClassFile.FieldType.int), Jvm.Cond.code ({ cls := "com/example/tempora/tempora/DistanceGraph", name := "lengthIfValid", desc := "(IZ)J" } : Jvm.MethodName) prog_5_method_17_code (3 : Nat) (Option.some Jvm.ClassFile.FieldType.long), Jvm.Cond.code ({ cls := "com/example/tempora/tempora/DistanceGraphLengthIfValidPinLaw", name := "fromOk", desc := "(JJ)Z" } : Jvm.MethodName) method_2_code (4 : Nat) (Option.some Jvm.ClassFile.FieldType.boolean), Jvm.Cond.code ({ cls := "com/example/tempora/tempora/DistanceGraphLengthIfValidPinLaw", name := "toOk", desc := "(JJ)Z" } : Jvm.MethodName) method_3_code (4 : Nat) (Option.some Jvm.ClassFile.FieldType.boolean)]
set_option maxRecDepth 65536 in
theorem codes_eq : words1.filter isCode = codes1 := rfl
theorem w_codes : ∀ c ∈ words1.filter isCode, c.before args0 about1 = true := by
  rw [codes_eq]
  intro c hc
  simp only [codes1, List.mem_cons, List.not_mem_nil, or_false] at hc
  rcases hc with rfl | rfl | rfl | rfl | rfl | rfl | rfl | rfl | rfl | rfl | rfl | rfl
  · exact w_c0
  · exact w_c1
  · exact w_c2
  · exact w_c3
  · exact w_c4
  · exact w_c5
  · exact w_c6
  · exact w_c7
  · exact w_c8
  · exact w_c9
  · exact w_c10
  · exact w_c11
set_option maxRecDepth 65536 in
theorem w_t1 : (words1.take 24).all (fun c => isCode c || c.before args0 about1) = true := by decide +kernel
set_option maxRecDepth 65536 in
theorem w_t2 : ((words1.drop 24).take 24).all (fun c => isCode c || c.before args0 about1) = true := by decide +kernel
set_option maxRecDepth 65536 in
theorem w_t3 : (((words1.drop 24).drop 24).take 24).all (fun c => isCode c || c.before args0 about1) = true := by decide +kernel
set_option maxRecDepth 65536 in
theorem w_t4 : (((words1.drop 24).drop 24).drop 24).all (fun c => isCode c || c.before args0 about1) = true := by decide +kernel
theorem w_tables : (allAtoms (Jvm.Cond.code x code maxLocals ret :: tables_1)).before args0 about1 = true := by
  rw [allAtoms_all]
  show words1.all (fun c => c.before args0 about1) = true
  refine all_split ?_ w_codes
  rw [← List.take_append_drop 24 words1, List.all_append, w_t1, ← List.take_append_drop 24 (words1.drop 24), List.all_append, w_t2, ← List.take_append_drop 24 ((words1.drop 24).drop 24), List.all_append, w_t3, w_t4]
  rfl
set_option maxRecDepth 65536 in
theorem w_case : (Jvm.Cond.and given_1 narrow_1).before args0 about1 = true := by decide +kernel
theorem w_applies : (headSpec (Jvm.Cond.code x code maxLocals ret :: tables_1) room_1).applies x e0.platform about1 = true :=
  (Spec.applies_iff w_frames).mpr ⟨w_running, w_runnable, w_alone, w_named, w_hears, w_ripe, w_room, w_tables⟩
theorem atStart : AtStart classFile x code maxLocals ret World_1 tables_1 room_1 Calls_1 rest_1 Pre_1 launch0 p0 e0 about1 theMethod args0 below0 :=
  ⟨lists_1, trivial, launch0.admits_env _ _ _, launch0.least_env, fairChoices_fair.cas, fairChoices_fair.clock, w_frames, w_args, w_heap, w_applies, trivial, trivial, w_case⟩
end start1
theorem witness_1 : WitnessClaimed_1 := ⟨start1.p0, start1.e0, start1.about1, start1.theMethod, start1.args0, start1.below0, start1.atStart⟩
end Jvm.Pilot.@@N@@
