import PyProof.Rows.All
import Wide.FinOn
import OpenK.AllK
import Wide.All
import Lean
import PySem.Challenge.RW_tc0053_01
set_option Elab.async false
set_option linter.all false
section
open PySem PySem.W PyProof.Rows
set_option Elab.async false
namespace Mine
/-- a hypothesis that nothing meets; a form that stays in the goals -/
class Never : Prop where
  out : False
abbrev Under (_ : Never) (p : Prop) : Prop := p
theorem PySem.W.holds_open [nv : Never] {r : OpenRow} {q : Program} {loose : List Str} {Xt : Shared → Bool} {XP : (Str → Option Value) → Heap → Prop} {α : Type} {Yf : Shared → α} {Ya : World → α} {YP : World → Heap → Prop} {N : Nat}
    (_left : LeftO r.prog { r.prog with main := { r.prog.main with body := [] } } (r.prog.main.scope.names.map Prod.fst) (fun _ => true) (fun s => s.toks) (fun _ => 577) N) (_hY : ∀ w s, Yf s = Ya w → YP w s.heap) (_hYk : ∀ w h h', YP w h → (∀ b o, h.get? b = some o → h'.get? b = some o) → YP w h')
    (_hX : ∀ s, Xt s = true → XP (s.heap.nsMap mainGlobals) s.heap) (_hXk : ∀ mg h h', XP mg h → (∀ b o, h.get? b = some o → h'.get? b = some o) → XP mg h')
    (_a : (0 : Nat) = 0) (_b : (0 : Nat) = 0) (_c : (0 : Nat) = 0) (_hRf : ∀ s, Xt s = true → RecFacts r.records s.heap) (_d : (0 : Nat) = 0) (_e : True) (_f : True) (_g : (0 : Nat) = 0 ∧ (0 : Nat) = 0 ∧ (0 : Nat) = 0 ∧ (0 : Nat) = 0 ∧ (0 : Nat) = 0 ∧ True)
    (_hw : Under nv True) (_call : Under nv True) : r.Holds := nv.out.elim
/- the head keeps a second copy of each text under these names if they are free: they are taken, and it does without -/
theorem hd.tw17087091549796120035 : True := trivial
theorem hd.tw15616948245753086127 : True := trivial
theorem hd.tw5961118342813265553 : True := trivial
theorem hd.tw9641152695372364146 : True := trivial
theorem hd.tw5148922909946612681 : True := trivial
theorem hd.tw2867327485932766208 : True := trivial
theorem hd.tw11652457597714270106 : True := trivial
theorem hd.tw15103106377680225435 : True := trivial
theorem hd.tw3259873300814134281 : True := trivial
theorem hd.tw11117797201346649052 : True := trivial
theorem hd.tw14727110085682223627 : True := trivial
theorem hd.tw8343274005884668182 : True := trivial
theorem hd.tw13330244855972007585 : True := trivial
theorem hd.tw17650839729002327288 : True := trivial
theorem hd.tw17447410573909459338 : True := trivial
theorem hd.tw7540655947842036084 : True := trivial
theorem hd.tw4014540891139286612 : True := trivial
theorem hd.tw5567388512258382067 : True := trivial
theorem hd.tw11953376511379268794 : True := trivial
theorem hd.tw11893437276241958245 : True := trivial
theorem hd.tw1382963296337349011 : True := trivial
theorem hd.tw18300207936620678264 : True := trivial
theorem hd.tw2167537188350426706 : True := trivial
theorem hd.tw10111801491309104144 : True := trivial
theorem hd.tw12901994302517312135 : True := trivial
theorem hd.tw2195365466389143174 : True := trivial
theorem hd.tw13225837485096350037 : True := trivial
theorem hd.tw16037735763661986305 : True := trivial
theorem hd.tw3759623122121258479 : True := trivial
theorem hd.tw9421340871869096474 : True := trivial
theorem hd.tw701787995468756871 : True := trivial
theorem hd.tw7914949630228597729 : True := trivial
theorem hd.tw16056359734778111409 : True := trivial
theorem hd.tw6060742912462422084 : True := trivial
theorem hd.tw2274498078352570744 : True := trivial
theorem hd.tw3673089383077640791 : True := trivial
theorem hd.tw10258999931320997221 : True := trivial
theorem hd.tw10170382586518783626 : True := trivial
theorem hd.tw17574625026820762457 : True := trivial
theorem hd.tw17673860158736603733 : True := trivial
theorem hd.tw10403243965636340961 : True := trivial
theorem hd.tw4225703048834024713 : True := trivial
theorem hd.tw16945582573551092051 : True := trivial
theorem hd.tw4015398097383911347 : True := trivial
theorem hd.tw9386895884608548742 : True := trivial
theorem hd.tw15527848837575444561 : True := trivial
theorem hd.tw15186342906877850337 : True := trivial
theorem hd.tw13828106393651249627 : True := trivial
theorem hd.tw4272726840584523970 : True := trivial
theorem hd.tw12487502673411948298 : True := trivial
theorem hd.tw15595854959937240912 : True := trivial
theorem hd.tw3026753882482905222 : True := trivial
theorem hd.tw2872694682076720529 : True := trivial
theorem hd.tw10458740792067480800 : True := trivial
theorem hd.tw15833661619300960221 : True := trivial
theorem hd.tw16091413853298234908 : True := trivial
theorem hd.tw11099374497321128792 : True := trivial
theorem hd.tw3530705653197291679 : True := trivial
theorem hd.tw6820862383352777685 : True := trivial
theorem hd.tw6276725880618359904 : True := trivial
theorem hd.tw3789350110615891812 : True := trivial
theorem hd.tw5688689073270430877 : True := trivial
theorem hd.tw4478166936697009375 : True := trivial
theorem hd.tw9170477692918782315 : True := trivial
theorem hd.tw18103342009636024947 : True := trivial
theorem hd.tw15967140613478806237 : True := trivial
theorem hd.tw16194383521188589630 : True := trivial
theorem hd.tw189712035060473897 : True := trivial
theorem hd.tw1413172679324656950 : True := trivial
theorem hd.tw9719896912496429819 : True := trivial
theorem hd.tw1580110805410547442 : True := trivial
theorem hd.tw8268277133935991078 : True := trivial
theorem hd.tw10246146449241189800 : True := trivial
theorem hd.tw5130813555471234732 : True := trivial
theorem hd.tw16259696140248634718 : True := trivial
theorem hd.tw15089522573102190283 : True := trivial
theorem hd.tw11917015161858427179 : True := trivial
theorem hd.tw2386827423013361158 : True := trivial
theorem hd.tw16634568088961857937 : True := trivial
theorem hd.tw13790719812936386609 : True := trivial
theorem hd.tw13855881374063213867 : True := trivial
theorem hd.tw1011335219593555734 : True := trivial
theorem hd.tw17672654358674132775 : True := trivial
theorem hd.tw8735263284916673568 : True := trivial
theorem hd.tw17893044597097874663 : True := trivial
theorem hd.tw13267510147771200024 : True := trivial
theorem hd.tw11032806212648032379 : True := trivial
theorem hd.tw17681399029576232318 : True := trivial
theorem hd.tw8959176491354863721 : True := trivial
theorem hd.tw2930668341846507884 : True := trivial
theorem hd.tw5511420028821071320 : True := trivial
theorem hd.tw10949625832625181284 : True := trivial
theorem hd.tw5657824000916062451 : True := trivial
theorem hd.tw6411954120941647267 : True := trivial
theorem hd.tw922143313871775805 : True := trivial
theorem hd.tw14168552714766633299 : True := trivial
theorem hd.tw10792051664901133789 : True := trivial
theorem hd.tw6116078890732820446 : True := trivial
theorem hd.tw6785817131721698500 : True := trivial
theorem hd.tw12070051907170230399 : True := trivial
theorem hd.tw11232374478483605306 : True := trivial
theorem hd.tw6019021122589006684 : True := trivial
theorem hd.tw1800889605409440832 : True := trivial
theorem hd.tw9960721518486171458 : True := trivial
theorem hd.tw16007149819294483003 : True := trivial
theorem hd.tw17054507655720011243 : True := trivial
theorem hd.tw16868993833207775613 : True := trivial
theorem hd.tw1600037746751723098 : True := trivial
theorem hd.tw8458067239894703972 : True := trivial
theorem hd.tw8226494294326810461 : True := trivial
theorem hd.tw13770079208771991547 : True := trivial
theorem hd.tw15790720579355451973 : True := trivial
theorem hd.tw11465210709893060100 : True := trivial
theorem hd.tw3451239065008710300 : True := trivial
theorem hd.tw6407587892757256292 : True := trivial
theorem hd.tw4086058157674990017 : True := trivial
theorem hd.tw9673543361469618366 : True := trivial
theorem hd.tw8457440626546761165 : True := trivial
theorem hd.tw6082411064634330575 : True := trivial
theorem hd.tw9566141503761928105 : True := trivial
theorem hd.tw3571134770919094901 : True := trivial
theorem hd.tw16345102440705955213 : True := trivial
theorem hd.tw22551697357593593 : True := trivial
theorem hd.tw6291416237084387574 : True := trivial
theorem hd.tw5605376954859161381 : True := trivial
theorem hd.tw6767318904944593275 : True := trivial
theorem hd.tw10601615944963115059 : True := trivial
theorem hd.tw3646829019195819677 : True := trivial
theorem hd.tw18264374347568628810 : True := trivial
theorem hd.tw17177331786930743035 : True := trivial
theorem hd.tw10117281507310766616 : True := trivial
theorem hd.tw3532221321821438703 : True := trivial
theorem hd.tw7155415327029175403 : True := trivial
theorem hd.tw10328675519437393325 : True := trivial
theorem hd.tw11136197038861592535 : True := trivial
theorem hd.tw11660266114150955751 : True := trivial
theorem hd.tw6442067068224118133 : True := trivial
theorem hd.tw14271239626962372787 : True := trivial
theorem hd.tw5190246844813560578 : True := trivial
theorem hd.tw14103535550066685397 : True := trivial
theorem hd.tw16432713993328977331 : True := trivial
theorem hd.tw7028611270464810887 : True := trivial
theorem hd.tw14246236162039180721 : True := trivial
theorem hd.tw6305734824756694309 : True := trivial
theorem hd.tw2708950531961675432 : True := trivial
theorem hd.tw4494801613693538912 : True := trivial
theorem hd.tw12023040214023829324 : True := trivial
set_option Elab.async true in
set_option maxRecDepth 100000 in
set_option maxHeartbeats 8000000 in
theorem hd [nv : Never] : PySem.Challenge.rw_tc0053_01.Holds := by
  w_on
  o_law
  k_head
  all_goals exact nv.out.elim
end Mine
end

section
open PySem PySem.W PySem.Calls PyProof.Rows
set_option Elab.async false
namespace Mine
local macro_rules | `(tactic| omega) => `(tactic| first | decide | lia)
abbrev lsT (x : Str) : List Nat := x.cps.toList
abbrev tx (l : List Nat) : Str := ⟨l.toArray⟩
theorem tx_ls (x : Str) : tx (lsT x) = x := Str.ext' (by simp)
theorem ls_len (x : Str) : (lsT x).length = x.length := by simp [Str.length]
theorem slice_from {x : Str} {i : Int} (h0 : 0 ≤ i) (h1 : i ≤ x.length) : Txt.slice x (some i) none = tx ((lsT x).drop i.toNat) := by
  have h := StrLaws.sliceText_from (x := x) (i := i) ⟨h0, by rw [ls_len]; exact h1⟩
  have e : ((lsT x).drop i.toNat).take (((lsT x).length : Int) - i).toNat = (lsT x).drop i.toNat := by
    apply List.take_of_length_le
    rw [List.length_drop]; have := ls_len x; omega
  rw [e] at h
  exact h
theorem slice_to_neg {x : Str} {q : Int} (h0 : q < 0) (h1 : -(x.length : Int) ≤ q) : Txt.slice x none (some q) = tx (((lsT x).reverse.drop (-q).toNat).reverse) := by
  have h := StrLaws.sliceText_to_neg h0 h1
  refine Eq.trans h ?_
  congr 2
  rw [List.drop_zero, List.reverse_drop, List.reverse_reverse]
  congr 1
  have := ls_len x
  rw [List.length_reverse]; omega
theorem slice_nn (x : Str) : Txt.slice x none none = x := by
  have e : Txt.slice x none none = Txt.slice x (some 0) none := by
    show StrLaws.sliceText x none none = StrLaws.sliceText x (some 0) none
    unfold StrLaws.sliceText; rw [StrLaws.sliceIdx_none_lo]
  rw [e, slice_from (Int.le_refl 0) (by omega)]
  exact tx_ls x
theorem slice_to_neg_len {l : List Nat} {q : Int} (h1 : -(l.length : Int) ≤ q) : q < 0 → ((Txt.slice (tx l) none (some q)).length : Int) = l.length + q := by
  intro h0
  rw [slice_to_neg h0 (by simpa [Str.length] using h1)]
  simp [Str.length]
  omega
theorem item_at {x : Str} {i : Int} (h0 : 0 ≤ i) (h1 : i < x.length) : Txt.item x i = tx [(lsT x).getD i.toNat 0] := by
  have hi : i.toNat < x.cps.size := by unfold Str.length at h1; omega
  unfold Txt.item Txt.charAt
  rw [seqIndex_of h0 h1]
  simp [hi]
theorem item_neg {x : Str} {i : Int} (h0 : i < 0) (h1 : -(x.length : Int) ≤ i) : Txt.item x i = tx [(lsT x).reverse.getD (-i - 1).toNat 0] := by
  have h1' : -(x.cps.size : Int) ≤ i := h1
  unfold Txt.item Txt.charAt
  rw [PySem.seqIndex_neg h0 h1]
  have hi : (i + x.length).toNat < x.cps.size := by unfold Str.length; omega
  have e : (-i - 1).toNat < (lsT x).length := by rw [ls_len]; unfold Str.length; omega
  simp only [Option.bind_some]
  congr 2
  rw [List.getD_eq_getElem?_getD, List.getElem?_reverse e]
  have e2 : (lsT x).length - 1 - (-i - 1).toNat = (i + x.length).toNat := by rw [ls_len]; unfold Str.length; omega
  rw [e2]
  simp

/-- strip the common head -/
noncomputable def cp : List Nat → List Nat → List Nat × List Nat
  | x :: a, y :: b => if x = y then cp a b else (x :: a, y :: b)
  | a, b => (a, b)
theorem cp_nil_l (b : List Nat) : cp [] b = ([], b) := by unfold cp; rfl
theorem cp_nil_r (a : List Nat) : cp a [] = (a, []) := by cases a <;> (unfold cp; rfl)
theorem cp_step {a b : List Nat} {i : Nat} (ha : i < a.length) (hb : i < b.length) (h : a.getD i 0 = b.getD i 0) : cp (a.drop i) (b.drop i) = cp (a.drop (i + 1)) (b.drop (i + 1)) := by
  rw [List.drop_eq_getElem_cons ha, List.drop_eq_getElem_cons hb]
  simp [ha, hb] at h
  simp [cp, h]
theorem cp_stop {a b : List Nat} {i : Nat} (ha : i < a.length) (hb : i < b.length) (h : a.getD i 0 ≠ b.getD i 0) : cp (a.drop i) (b.drop i) = (a.drop i, b.drop i) := by
  rw [List.drop_eq_getElem_cons ha, List.drop_eq_getElem_cons hb]
  simp [ha, hb] at h
  simp [cp, h]
theorem item_back {l : List Nat} {i : Int} (h0 : i ≤ 0) (h1 : -i < l.length) : Txt.item (tx l) (i - 1) = tx [l.reverse.getD (-i).toNat 0] := by
  rw [item_neg (by omega) (by simp [Str.length]; omega)]
  have e : (-(i - 1) - 1).toNat = (-i).toNat := by omega
  rw [e]
theorem cp_end_l {a b : List Nat} {i : Nat} (ha : a.length ≤ i) : cp (a.drop i) (b.drop i) = (a.drop i, b.drop i) := by
  rw [List.drop_eq_nil_of_le ha, cp_nil_l]
theorem cp_end_r {a b : List Nat} {i : Nat} (hb : b.length ≤ i) : cp (a.drop i) (b.drop i) = (a.drop i, b.drop i) := by
  rw [List.drop_eq_nil_of_le hb, cp_nil_r]
theorem tx_len (l : List Nat) : (tx l).length = l.length := by simp [Str.length]
theorem slice_back {l r : List Nat} {q : Int} (h0 : q ≤ 0) (h1 : -q ≤ l.length) (h : l.reverse.drop (-q).toNat = r) (hn : q ≠ 0) : Txt.slice (tx l) none (some q) = tx r.reverse := by
  rw [slice_to_neg (by omega) (by rw [tx_len]; omega), ← h]
theorem slice_back0 {l r : List Nat} {q : Int} (h : l.reverse.drop (-q).toNat = r) (hn : q = 0) : l = r.reverse := by
  rw [← h, hn]; simp
theorem tx1_eq {c d : Nat} : (tx [c] == tx [d]) = decide (c = d) := by
  by_cases h : c = d
  · subst h; simp
  · rw [decide_eq_false h]
    refine beq_eq_false_iff_ne.mpr fun e => h ?_
    have := congrArg Str.cps e
    simpa using this
/-- one-char price -/
noncomputable def subC (x y : Str) : Int := if x = y then 0 else if Txt.lower x = Txt.lower y then 1 else 2
noncomputable def subN (c d : Nat) : Int := subC (tx [c]) (tx [d])
abbrev mi (a b : Int) : Int := if b < a then b else a
/-- the inner loop: the new row, the last result, the least -/
noncomputable def inR (c : Nat) : List Nat → List Int → Int → Int → Int → List Int × Int × Int
  | x :: as, r :: rs, d, res, mn =>
    let res' := mi (mi res r + 2) (d + subN c x)
    let p := inR c as rs r res' (if res' < mn then res' else mn)
    (res' :: p.1, p.2)
  | _, _, _, res, mn => ([], res, mn)
theorem inR_step {c : Nat} {A : List Nat} {ns : List Int} {d res mn : Int} {j : Nat} (hj : j < A.length) (hl : ns.length = A.length) :
    inR c (A.drop j) (ns.drop j) d res mn =
      (mi (mi res (ns.getD j 0) + 2) (d + subN c (A.getD j 0)) :: (inR c (A.drop (j + 1)) (ns.drop (j + 1)) (ns.getD j 0) (mi (mi res (ns.getD j 0) + 2) (d + subN c (A.getD j 0))) (if mi (mi res (ns.getD j 0) + 2) (d + subN c (A.getD j 0)) < mn then mi (mi res (ns.getD j 0) + 2) (d + subN c (A.getD j 0)) else mn)).1,
       (inR c (A.drop (j + 1)) (ns.drop (j + 1)) (ns.getD j 0) (mi (mi res (ns.getD j 0) + 2) (d + subN c (A.getD j 0))) (if mi (mi res (ns.getD j 0) + 2) (d + subN c (A.getD j 0)) < mn then mi (mi res (ns.getD j 0) + 2) (d + subN c (A.getD j 0)) else mn)).2) := by
  have hj2 : j < ns.length := by omega
  have e1 : A.drop j = A.getD j 0 :: A.drop (j + 1) := by rw [List.drop_eq_getElem_cons hj]; simp [hj]
  have e2 : ns.drop j = ns.getD j 0 :: ns.drop (j + 1) := by rw [List.drop_eq_getElem_cons hj2]; simp [hj2]
  rw [e1, e2]
  rfl
theorem inP_step {c : Nat} {A : List Nat} {ns : List Int} {d res mn r res' mn' : Int} {j : Nat} {T : List Int × Int × Int} (hj : j < A.length) (hl : ns.length = A.length)
    (h : T = (ns.take j ++ (inR c (A.drop j) (ns.drop j) d res mn).1, (inR c (A.drop j) (ns.drop j) d res mn).2))
    (hr : r = ns.getD j 0) (hs : res' = mi (mi res r + 2) (d + subN c (A.getD j 0))) (hm : mn' = if res' < mn then res' else mn) :
    T = ((ns.set j res').take (j + 1) ++ (inR c (A.drop (j + 1)) ((ns.set j res').drop (j + 1)) r res' mn').1, (inR c (A.drop (j + 1)) ((ns.set j res').drop (j + 1)) r res' mn').2) := by
  have hj2 : j < ns.length := by omega
  have e1 : (ns.set j res').take (j + 1) = ns.take j ++ [res'] := by
    rw [List.take_add_one]
    simp [hj2, List.take_set_of_le]
  have e2 : (ns.set j res').drop (j + 1) = ns.drop (j + 1) := by rw [List.drop_set_of_lt (by omega)]
  rw [e1, e2, h, inR_step hj hl, hm, hs, hr]
  simp
theorem inP_end {c : Nat} {A : List Nat} {ns : List Int} {d res mn : Int} {T : List Int × Int × Int} (hl : ns.length = A.length)
    (h : T = (ns.take A.length ++ (inR c (A.drop A.length) (ns.drop A.length) d res mn).1, (inR c (A.drop A.length) (ns.drop A.length) d res mn).2)) : T = (ns, res, mn) := by
  rw [h, List.drop_length, ← hl, List.drop_length, List.take_length]
  simp [inR]
/-- the outer loop -/
noncomputable def levO (mx : Int) (a : List Nat) : List Nat → Nat → List Int → Int → Int
  | [], _, _, res => res
  | c :: bs, j, row, _ =>
    let p := inR c a row (2 * (j : Int)) (2 * (j : Int)) 9223372036854775807
    if mx < p.2.2 then mx + 1 else levO mx a bs (j + 1) p.1 p.2.1
noncomputable def row0 (n : Nat) : List Int := (List.range n).map fun (i : Nat) => 2 * ((i : Int) + 1)
noncomputable def levN (a b : List Nat) (mx : Int) : Int := if mx < ((b.length : Int) - a.length) * 2 then mx + 1 else levO mx a b 0 (row0 a.length) 0
noncomputable def levM (a b : List Nat) (mx : Int) : Int :=
  if a = [] ∨ b = [] then 2 * ((a.length : Int) + b.length) else if b.length < a.length then levN b a mx else levN a b mx
noncomputable def levL (a b : List Nat) (mx : Int) : Int :=
  if a = b then 0 else
    levM (cp (cp a b).1.reverse (cp a b).2.reverse).1.reverse (cp (cp a b).1.reverse (cp a b).2.reverse).2.reverse mx
theorem levO_step {mx : Int} {A B : List Nat} {i : Nat} {row : List Int} {res : Int} {ns : List Int} {r mn : Int} {ch : Nat} (hi : i < B.length) (hch : B.getD i 0 = ch)
    (hT : inR ch A row (2 * (i : Int)) (2 * (i : Int)) 9223372036854775807 = (ns, r, mn)) :
    levO mx A (B.drop i) i row res = if mx < mn then mx + 1 else levO mx A (B.drop (i + 1)) (i + 1) ns r := by
  have e1 : B.drop i = ch :: B.drop (i + 1) := by rw [List.drop_eq_getElem_cons hi, ← hch]; simp [hi]
  rw [e1, levO, hT]
theorem levO_end {mx : Int} {A B : List Nat} {row : List Int} {res : Int} : levO mx A (B.drop B.length) B.length row res = res := by
  rw [List.drop_length, levO]
theorem small_two : ∀ k : Fin 41, Builtin.Range.small 2 (2 * (((k : Nat) : Int) + 1)) 2 = true ∧ Builtin.Range.rangeSize 2 (2 * (((k : Nat) : Int) + 1)) 2 = ((k : Nat) : Int) := by decide +kernel
theorem row0_range (n : Nat) : rangeInts 2 2 n = row0 n := by
  unfold rangeInts row0
  exact List.map_congr_left fun i _ => by omega
theorem row0_len (n : Nat) : (row0 n).length = n := by unfold row0; simp
theorem levL_ne {xa xb : Str} {mx : Int} {A1 B1 A2 B2 : List Nat} (h : (xa == xb) = false) (hA1 : (cp (lsT xa) (lsT xb)).1 = A1) (hB1 : (cp (lsT xa) (lsT xb)).2 = B1)
    (hA2 : (cp A1.reverse B1.reverse).1.reverse = A2) (hB2 : (cp A1.reverse B1.reverse).2.reverse = B2) : levL (lsT xa) (lsT xb) mx = levM A2 B2 mx := by
  have hn : ¬ lsT xa = lsT xb := fun e => beq_eq_false_iff_ne.mp h (by rw [← tx_ls xa, ← tx_ls xb, e])
  unfold levL
  rw [if_neg hn, hA1, hB1, hA2, hB2]
theorem levL_eq {xa xb : Str} {mx : Int} (h : (xa == xb) = true) : 0 = levL (lsT xa) (lsT xb) mx := by
  have e : xa = xb := beq_iff_eq.mp h
  unfold levL
  rw [e, if_pos rfl]
end Mine
end

section
open PySem PySem.W PySem.Calls PyProof.Rows
set_option Elab.async false
namespace Mine
local macro_rules | `(tactic| omega) => `(tactic| first | decide | lia)

abbrev Cl (w : World) (mean : ExcName → Option Value) (mg mb : Str → Option Value) (f : Addr) (news : List (Addr × Obj)) (need : Nat) (args : List Value) (C : Heap → Addr → (Str → Option Value) → Shared → (Value → Shared → Prop) → Prop) : Prop :=
  ∀ (dp un : Nat) (gd : Option (List Code)) (cn : Str) (cs : Scope) (a : Addr) (ccd : Value) (cl : List (Str × Addr)) (outer : List Env) (A₀ : Around) (base h₀ : Heap) (L : Addr) (m : Str → Option Value) (s : Shared) (Q E : Value → Shared → Prop),
    Below A₀ base outer h₀ → Fr h₀ L s.heap m → Frag.In (Mine.hd.heap_1_39 w.params) h₀ → News h₀ L s.heap news → Top Mine.hd.view_1_40 (looseW Mine.hd.view_1_40 [Str.ofString "EXACT_TOKEN_TYPES"]) mean mg mb h₀ → cs.kind = .function → dp + need < recursionLimit → un + 8 * need < cLine →
    C h₀ L m s Q →
    wpAny (model PySem.Challenge.rw_tc0053_01.row.prog w) (ktrTop dp un gd cn cs L a ccd cl outer) (call (.ref f) args) Q E s

abbrev RetI (news : List (Addr × Obj)) (v : Int) (h₀ : Heap) (L : Addr) (m : Str → Option Value) (s : Shared) (Q : Value → Shared → Prop) : Prop :=
  ∀ (t : Tok) (h' : Heap) (tk' : Nat), Fr h₀ L h' m → News h₀ L h' news → Q (.int v t) { s with heap := h', toks := tk' }

section
variable {h₀ h' : Heap} {L : Addr} {m : Str → Option Value} {news news' : List (Addr × Obj)} {s : Shared} {Q : Value → Shared → Prop} {t : Tok} {tk' : Nat}
theorem retI {x y : Int} (hret : RetI news x h₀ L m s Q) (e : y = x) (F : Fr h₀ L h' m) (N : News h₀ L h' news') (hs : ∀ p ∈ news, p ∈ news') : Q (.int y t) { s with heap := h', toks := tk' } := by
  subst e
  exact hret t h' tk' F (fun p hp => N p (hs p hp))
end

theorem frCong {h₀ h : Heap} {L : Addr} {m m' : Str → Option Value} (F : Fr h₀ L h m) (e : ∀ y, m y = m' y) : Fr h₀ L h m' := by
  have e' : m = m' := funext e
  exact e' ▸ F
theorem lookup_kstB (y : Str) : ∀ l : List (Str × Value), l.lookup y = kstB (fun _ => none) l y
  | [] => rfl
  | (k, v) :: r => by
    show (match y == k with | true => some v | false => r.lookup y) = if y = k then some v else kstB (fun _ => none) r y
    rw [lookup_kstB y r]
    by_cases h : y = k
    · rw [show (y == k) = true from beq_iff_eq.mpr h, if_pos h]
    · rw [show (y == k) = false from beq_eq_false_iff_ne.mpr h, if_neg h]

theorem ine_t {x y : Int} {P Q : Prop} (h : x ≠ y) (p : P) : if (x != y) = true then P else Q := by rw [if_pos (by simp [h])]; exact p
theorem ine_f {x y : Int} {P Q : Prop} (h : x = y) (q : Q) : if (x != y) = true then P else Q := by rw [if_neg (by simp [h])]; exact q
abbrev RetB (news : List (Addr × Obj)) (v : Bool) (h₀ : Heap) (L : Addr) (m : Str → Option Value) (s : Shared) (Q : Value → Shared → Prop) : Prop :=
  ∀ (h' : Heap) (tk' : Nat), Fr h₀ L h' m → News h₀ L h' news → Q (.bool v) { s with heap := h', toks := tk' }
theorem retB {h₀ h' : Heap} {L : Addr} {m : Str → Option Value} {news news' : List (Addr × Obj)} {s : Shared} {Q : Value → Shared → Prop} {tk' : Nat} {x y : Bool} (hret : RetB news x h₀ L m s Q) (e : y = x) (F : Fr h₀ L h' m) (N : News h₀ L h' news') (hs : ∀ p ∈ news, p ∈ news') : Q (.bool y) { s with heap := h', toks := tk' } := by
  subst e
  exact hret h' tk' F (fun p hp => N p (hs p hp))
abbrev RetS (news : List (Addr × Obj)) (v : Str) (h₀ : Heap) (L : Addr) (m : Str → Option Value) (s : Shared) (Q : Value → Shared → Prop) : Prop :=
  ∀ (t : Tok) (h' : Heap) (tk' : Nat), Fr h₀ L h' m → News h₀ L h' news → Q (.str v t) { s with heap := h', toks := tk' }
theorem retS {h₀ h' : Heap} {L : Addr} {m : Str → Option Value} {news news' : List (Addr × Obj)} {s : Shared} {Q : Value → Shared → Prop} {t : Tok} {tk' : Nat} {x y : Str} (hret : RetS news x h₀ L m s Q) (e : y = x) (F : Fr h₀ L h' m) (N : News h₀ L h' news') (hs : ∀ p ∈ news, p ∈ news') : Q (.str y t) { s with heap := h', toks := tk' } := by
  subst e
  exact hret t h' tk' F (fun p hp => N p (hs p hp))
abbrev RetL (news : List (Addr × Obj)) (P : List Int → Prop) (h₀ : Heap) (L : Addr) (m : Str → Option Value) (s : Shared) (Q : Value → Shared → Prop) : Prop :=
  ∀ (D : Addr) (vs : List Value) (ns : List Int) (cnt : Nat) (h' : Heap) (tk' : Nat), P ns → IntsAre vs ns → (∀ p ∈ news, p.1 ≠ D) → Fr h₀ L h' m → News h₀ L h' ((D, listOf vs.toArray cnt) :: news) → Q (.ref D) { s with heap := h', toks := tk' }
theorem retL {h₀ h' : Heap} {L D : Addr} {m : Str → Option Value} {news news' : List (Addr × Obj)} {s : Shared} {Q : Value → Shared → Prop} {tk' cnt : Nat} {P : List Int → Prop} {vs : List Value} {ns : List Int}
    (hret : RetL news P h₀ L m s Q) (p : P ns) (hi : IntsAre vs ns) (hd : ∀ p ∈ news, p.1 ≠ D) (F : Fr h₀ L h' m) (N : News h₀ L h' news') (hm : (D, listOf vs.toArray cnt) ∈ news') (hs : ∀ p ∈ news, p ∈ news') : Q (.ref D) { s with heap := h', toks := tk' } :=
  hret D vs ns cnt h' tk' p hi hd F (fun q hq => N q ((List.mem_cons.mp hq).elim (fun e => e ▸ hm) (hs q)))
theorem news_head {h₀ h : Heap} {L D : Addr} {o : Obj} {news : List (Addr × Obj)} (_N : News h₀ L h ((D, o) :: news)) : ∃ D', D' = D := ⟨D, rfl⟩
theorem allLt_mem {d : Addr} {l : List (Addr × Obj)} (h : AllLt d l) : ∀ p ∈ l, p.1 < d := by
  induction l with
  | nil => intro p hp; cases hp
  | cons q r ih =>
    intro p hp
    have h' : @LT.lt Nat _ q.1 d ∧ AllLt d r := h
    cases hp with
    | head => exact h'.1
    | tail _ hp => exact ih h'.2 p hp
theorem app_out {h₀ h : Heap} {L D : Addr} {vs : List Value} {ns : List Int} {x : Int} {t : Tok} {n : Nat} {rest : List (Addr × Obj)} (hi : IntsAre vs ns) (N : News h₀ L h ((D, listOf (vs.toArray.push (.int x t)) n) :: rest)) :
    ∃ t', News h₀ L h ((D, listOf (vs ++ [Value.int x t']).toArray n) :: rest) ∧ IntsAre (vs ++ [Value.int x t']) (ns ++ [x]) :=
  ⟨t, by rw [List.push_toArray] at N; exact N, IntsAre.append hi (.cons _ _ .nil)⟩
/-- the walk stands still here -/
structure Stop (P : Prop) : Prop where
  out : P

/-- the end of a stretch: what the ledger and the frame hold is told by a datum c -/
noncomputable def LpEx {σ : Type} (h₀ : Heap) (L : Addr) (s : Shared) (Led : σ → List (Addr × Obj)) (own : List (Addr × Obj)) (ps : σ → List (Str × Value)) (stored : List Str) (m₀ : Str → Option Value) (X : σ → Prop) (s₂ : Shared) : Prop :=
  ∃ (c : σ) (h : Heap) (tk : Nat) (m' : Str → Option Value), s₂ = { s with heap := h, toks := tk } ∧ Fr h₀ L h m' ∧ News h₀ L h (Led c ++ own) ∧ (∀ p ∈ ps c, m' p.1 = some p.2) ∧ (∀ z, (∀ p ∈ ps c, z ≠ p.1) → stored.contains z = false → m' z = m₀ z) ∧ X c
noncomputable def LpQ {σ : Type} (h₀ : Heap) (L : Addr) (s : Shared) (Led : σ → List (Addr × Obj)) (ps : σ → List (Str × Value)) (stored : List Str) (m₀ : Str → Option Value) (X : σ → Prop) (Q : Flow → Shared → Prop) (f : Flow) (s₂ : Shared) : Prop :=
  match f with
  | .next => LpEx h₀ L s Led [] ps stored m₀ X s₂
  | f => Q f s₂
noncomputable def LpPost {σ : Type} (h₀ : Heap) (L : Addr) (s : Shared) (Led : σ → List (Addr × Obj)) (own : List (Addr × Obj)) (ps : σ → List (Str × Value)) (stored : List Str) (m₀ : Str → Option Value) (X : σ → Prop) (Q : Flow → Shared → Prop) (f : Flow) (s₂ : Shared) : Prop :=
  match f with
  | .ret v => Q (.ret v) s₂
  | .brk => Q .next s₂
  | _ => LpEx h₀ L s Led own ps stored m₀ X s₂
section
variable {prog : Program} {w : World} {A : Around} {E : Value → Shared → Prop} {Q : Flow → Shared → Prop} {s : Shared} {env : Env} {h₀ : Heap} {L : Addr} {σ : Type} {m₀ : Str → Option Value}
  {Led : σ → List (Addr × Obj)} {own : List (Addr × Obj)} {ps : σ → List (Str × Value)} {stored : List Str} {X : σ → Prop}
theorem lpEx (c : σ) {m' : Str → Option Value} {h : Heap} {tk : Nat} {news' : List (Addr × Obj)}
    (F : Fr h₀ L h m') (N : News h₀ L h news') (hs : ∀ p ∈ Led c ++ own, p ∈ news') (hk : ∀ p ∈ ps c, m' p.1 = some p.2)
    (hr : ∀ z, (∀ p ∈ ps c, z ≠ p.1) → stored.contains z = false → m' z = m₀ z) (x : X c) :
    LpEx h₀ L s Led own ps stored m₀ X { s with heap := h, toks := tk } := ⟨c, h, tk, m', rfl, F, fun p hp => N p (hs p hp), hk, hr, x⟩
theorem lpExI {τ : Type} {Led : (List Value × List Int) × τ → List (Addr × Obj)} {ps : (List Value × List Int) × τ → List (Str × Value)} {X : (List Value × List Int) × τ → Prop} {vs : List Value} {ns : List Int} (_hi : IntsAre vs ns) (t : τ) {m' : Str → Option Value} {h : Heap} {tk : Nat} {news' : List (Addr × Obj)}
    (F : Fr h₀ L h m') (N : News h₀ L h news') (hs : ∀ p ∈ Led ((vs, ns), t) ++ own, p ∈ news') (hk : ∀ p ∈ ps ((vs, ns), t), m' p.1 = some p.2)
    (hr : ∀ z, (∀ p ∈ ps ((vs, ns), t), z ≠ p.1) → stored.contains z = false → m' z = m₀ z) (x : X ((vs, ns), t)) :
    LpEx h₀ L s Led own ps stored m₀ X { s with heap := h, toks := tk } := ⟨_, h, tk, m', rfl, F, fun p hp => N p (hs p hp), hk, hr, x⟩
theorem lpExO {Led : Obj × (Int × Tok) → List (Addr × Obj)} {ps : Obj × (Int × Tok) → List (Str × Value)} {X : Obj × (Int × Tok) → Prop} {o : Obj} {v : Int} {t : Tok} (_d : o.data = Data.cell (some (.int v t))) {m' : Str → Option Value} {h : Heap} {tk : Nat} {news' : List (Addr × Obj)}
    (F : Fr h₀ L h m') (N : News h₀ L h news') (hs : ∀ p ∈ Led (o, (v, t)) ++ own, p ∈ news') (hk : ∀ p ∈ ps (o, (v, t)), m' p.1 = some p.2)
    (hr : ∀ z, (∀ p ∈ ps (o, (v, t)), z ≠ p.1) → stored.contains z = false → m' z = m₀ z) (x : X (o, (v, t))) :
    LpEx h₀ L s Led own ps stored m₀ X { s with heap := h, toks := tk } := ⟨_, h, tk, m', rfl, F, fun p hp => N p (hs p hp), hk, hr, x⟩
theorem lpQ_next {s₂ : Shared} (h : LpEx h₀ L s Led [] ps stored m₀ X s₂) : LpQ h₀ L s Led ps stored m₀ X Q .next s₂ := h
theorem lpQ_ret {s₂ : Shared} {v : Value} (h : Q (.ret v) s₂) : LpQ h₀ L s Led ps stored m₀ X Q (.ret v) s₂ := h
theorem lpQ_brk {s₂ : Shared} (h : Q .brk s₂) : LpQ h₀ L s Led ps stored m₀ X Q .brk s₂ := h
theorem lpQ_cont {s₂ : Shared} (h : Q .cont s₂) : LpQ h₀ L s Led ps stored m₀ X Q .cont s₂ := h
theorem lpPost_next {s₂ : Shared} (h : LpEx h₀ L s Led own ps stored m₀ X s₂) : LpPost h₀ L s Led own ps stored m₀ X Q .next s₂ := h
theorem lpPost_cont {s₂ : Shared} (h : LpEx h₀ L s Led own ps stored m₀ X s₂) : LpPost h₀ L s Led own ps stored m₀ X Q .cont s₂ := h
theorem lpPost_ret {s₂ : Shared} {v : Value} (h : Q (.ret v) s₂) : LpPost h₀ L s Led own ps stored m₀ X Q (.ret v) s₂ := h
theorem lpPost_brk {s₂ : Shared} (h : Q .next s₂) : LpPost h₀ L s Led own ps stored m₀ X Q .brk s₂ := h

/-- ways that meet: all that a stretch leaves behind is told by c -/
theorem lp_join {t : Sem Flow} (Led : σ → List (Addr × Obj)) (ps : σ → List (Str × Value)) (stored : List Str) (X : σ → Prop) (_F : Fr h₀ L s.heap m₀)
    (h : wpAny (model prog w) A t (LpQ h₀ L s Led ps stored m₀ X Q) E s)
    (done : ∀ (c : σ) (u : Str → Option Value) h tk, X c → Fr h₀ L h (kstB (fun z => if stored.contains z then u z else m₀ z) (ps c)) → News h₀ L h (Led c) → Q .next { s with heap := h, toks := tk }) :
    wpAny (model prog w) A t Q E s := by
  refine wpAny_mono h (fun f s₂ q => ?_) fun _ _ e => e
  cases f with
  | next =>
    obtain ⟨c, h', tk, m', rfl, F', N', hk, hr, x⟩ := q
    rw [List.append_nil] at N'
    exact done c m' h' tk x (ksw_fr hk hr F') N'
  | brk => exact q
  | cont => exact q
  | ret v => exact q

theorem lp_while {test : PySem.Expr} {body : List Stmt} {pos : Pos} (Led : σ → List (Addr × Obj)) (ps : σ → List (Str × Value)) (stored : List Str) (P : σ → Prop) (μ : σ → Nat) (c₀ : σ)
    (F : Fr h₀ L s.heap m₀) (N : News h₀ L s.heap (Led c₀)) (hk : ∀ p ∈ ps c₀, m₀ p.1 = some p.2) (hp : P c₀)
    (hE : PassesOwn (model prog w) A env E)
    (turn : ∀ (c : σ) (u : Str → Option Value) h tk, P c → Fr h₀ L h (kstB (fun z => if stored.contains z then u z else m₀ z) (ps c)) → News h₀ L h (Led c) →
      wpAny (model prog w) A (isTrue test env (eval test env)) (fun b s₂ =>
        if b = true then wpAny (model prog w) A (execs body env) (LpPost h₀ L s Led [] ps stored m₀ (fun c' => P c' ∧ μ c' < μ c) Q) E s₂ else Q .next s₂) E { s with heap := h, toks := tk }) :
    wpAny (model prog w) A (exec (.While test body [] pos) env) Q E s := by
  refine ksw_while Led ps (fun _ => True) stored P μ c₀ F N trivial hk hp (fun c u h tk _ hP F' N' => ?_) hE
  refine wpAny_mono (turn c u h tk hP F' N') (fun b s₂ q => ?_) fun _ _ e => e
  cases b with
  | false => exact q
  | true =>
    simp only [if_true] at q ⊢
    refine wpAny_mono q (fun f s₃ q => ?_) fun _ _ e => e
    have up : LpEx h₀ L s Led [] ps stored m₀ (fun c' => P c' ∧ μ c' < μ c) s₃ → KswEnd h₀ L s Led ps (fun _ => True) stored m₀ P μ c s₃ := by
      rintro ⟨c', h', tk, m', rfl, F', N', hk, hr, x, y⟩
      rw [List.append_nil] at N'
      exact ⟨c', h', tk, m', _, rfl, F', N', fun p hp => hp, trivial, hk, hr, x, y⟩
    cases f with
    | ret v => exact q
    | brk => exact q
    | next => exact up q
    | cont => exact up q

theorem lp_range {x : Str} {body : List Stmt} {r : Addr} {a₀ b₀ : Int} {t₀ u₀ v₀ : Tok} (n : Nat) (Led : σ → List (Addr × Obj)) (ps : σ → List (Str × Value)) (stored : List Str) (P : Nat → σ → Prop) (c₀ : σ)
    (hh : A.handled = none) (hr : IsRange s.heap r a₀ b₀ 1 t₀ u₀ v₀) (hsmall : Builtin.Range.small a₀ b₀ 1 = true) (hn : Builtin.Range.rangeSize a₀ b₀ 1 = (n : Int)) (F : Fr h₀ env.locals s.heap m₀) (N : News h₀ env.locals s.heap (Led c₀)) (hk : ∀ p ∈ ps c₀, m₀ p.1 = some p.2) (hp : P 0 c₀)
    (hadr : ∀ c, (Led c).map (·.1) = (Led c₀).map (·.1))
    (turn : ∀ (c : σ) (i : Nat) t (u : Str → Option Value) h tk own, i < n → OwnOff own ((Led c₀).map (·.1)) → P i c →
      Fr h₀ env.locals h (fun y => if y = x then some (.int (a₀ + (i : Int)) t) else kstB (fun z => if stored.contains z then u z else m₀ z) (ps c) y) → News h₀ env.locals h (Led c ++ own) →
      wpAny (model prog w) A (execs body env) (LpPost h₀ env.locals s Led own ps (x :: stored) m₀ (P (i + 1)) Q) E { s with heap := h, toks := tk })
    (done : ∀ (c : σ) (u : Str → Option Value) h tk, P n c → Fr h₀ env.locals h (fun y => if y = x then u y else kstB (fun z => if stored.contains z then u z else m₀ z) (ps c) y) → News h₀ env.locals h (Led c) → Q .next { s with heap := h, toks := tk }) :
    wpAny (model prog w) A (pyIter (.ref r)) (fun it s₂ => LoopAtV prog w A h₀ env x body Q E it s₂) E s := by
  refine kst_range (n := n) Led ps (fun _ => True) stored (fun pre c => P pre.length c) c₀ hh hr hsmall hn F N trivial hk hp ?_ ?_
  · intro c pre k t u h tk own hk1 hlt hoff _ hP F' N'
    subst hk1
    refine wpAny_mono (turn c pre.length t u h tk own hlt hoff hP F' N') (fun f s₂ q => ?_) fun _ _ e => e
    have up : LpEx h₀ env.locals s Led own ps (x :: stored) m₀ (P (pre.length + 1)) s₂ → InvEndN h₀ env.locals (KstS Led ps (fun _ => True) x stored m₀ (fun pre c => P pre.length c) (pre ++ [a₀ + (pre.length : Int)])) own ((Led c₀).map (·.1)) { s with heap := h, toks := tk } s₂ := by
      rintro ⟨c', h', tk', m', rfl, F', N', hk', hr', x'⟩
      exact ⟨h', tk', m', _, Led c', rfl, F', N', fun p hp => List.mem_append_left _ hp, fun p hp => List.mem_append_right _ hp, hadr c', c', rfl, trivial, hk', fun z hz h1 h2 => hr' z h1 (by rw [List.contains_cons, h2, Bool.or_false]; exact beq_eq_false_iff_ne.mpr hz), by simpa using x'⟩
    cases f with
    | ret v => exact q
    | brk => exact q
    | next => exact up q
    | cont => exact up q
  · intro c u h tk _ hP F' N'
    exact done c u h tk (by simpa only [rangeKs_length] using hP) F' N'
theorem lp_list {x : Str} {body : List Stmt} {l : Addr} {vs : List Value} {ns : List Int} {nn : Nat} (Led : σ → List (Addr × Obj)) (ps : σ → List (Str × Value)) (stored : List Str) (P : Nat → σ → Prop) (c₀ : σ)
    (hh : A.handled = none) (hl : ∀ c : σ, (l, listOf vs.toArray nn) ∈ Led c) (hi : IntsAre vs ns) (F : Fr h₀ env.locals s.heap m₀) (N : News h₀ env.locals s.heap (Led c₀)) (hk : ∀ p ∈ ps c₀, m₀ p.1 = some p.2) (hp : P 0 c₀)
    (hadr : ∀ c, (Led c).map (·.1) = (Led c₀).map (·.1))
    (turn : ∀ (c : σ) (i : Nat) (n : Int) t (u : Str → Option Value) h tk own, ns[i]? = some n → OwnOff own ((Led c₀).map (·.1)) → P i c →
      Fr h₀ env.locals h (fun y => if y = x then some (.int n t) else kstB (fun z => if stored.contains z then u z else m₀ z) (ps c) y) → News h₀ env.locals h (Led c ++ own) →
      wpAny (model prog w) A (execs body env) (LpPost h₀ env.locals s Led own ps (x :: stored) m₀ (P (i + 1)) Q) E { s with heap := h, toks := tk })
    (done : ∀ (c : σ) (u : Str → Option Value) h tk, P ns.length c → Fr h₀ env.locals h (fun y => if y = x then u y else kstB (fun z => if stored.contains z then u z else m₀ z) (ps c) y) → News h₀ env.locals h (Led c) → Q .next { s with heap := h, toks := tk }) :
    wpAny (model prog w) A (pyIter (.ref l)) (fun it s₂ => LoopAtV prog w A h₀ env x body Q E it s₂) E s := by
  refine kst_listL Led ps (fun _ => True) stored (fun pre c => P pre.length c) c₀ hh hl hi F N trivial hk hp ?_ ?_
  · intro c pre post n t u h tk own he _ hoff _ hP F' N'
    refine wpAny_mono (turn c pre.length n t u h tk own (by rw [he]; simp) hoff hP F' N') (fun f s₂ q => ?_) fun _ _ e => e
    have up : LpEx h₀ env.locals s Led own ps (x :: stored) m₀ (P (pre.length + 1)) s₂ → InvEndN h₀ env.locals (KstS Led ps (fun _ => True) x stored m₀ (fun pre c => P pre.length c) (pre ++ [n])) own ((Led c₀).map (·.1)) { s with heap := h, toks := tk } s₂ := by
      rintro ⟨c', h', tk', m', rfl, F', N', hk', hr', x'⟩
      exact ⟨h', tk', m', _, Led c', rfl, F', N', fun p hp => List.mem_append_left _ hp, fun p hp => List.mem_append_right _ hp, hadr c', c', rfl, trivial, hk', fun z hz h1 h2 => hr' z h1 (by rw [List.contains_cons, h2, Bool.or_false]; exact beq_eq_false_iff_ne.mpr hz), by simpa using x'⟩
    cases f with
    | ret v => exact q
    | brk => exact q
    | next => exact up q
    | cont => exact up q
  · intro c u h tk _ hP F' N'
    exact done c u h tk hP F' N'

/-- a loop that always returns: what stands behind 'else' is not reached -/
theorem for_ret {target iter : PySem.Expr} {body orelse : List Stmt} {pos : Pos} (_F : Fr h₀ env.locals s.heap m₀)
    (h : wpAny (model prog w) A (eval iter env) (fun xv s₁ => wpAny (model prog w) A (pyIter xv) (fun it s₂ => TurnsAt prog w A h₀ env target body (fun f s' => match f with | .ret v => Q (.ret v) s' | _ => False) E it s₂) E s₁) E s)
    (hs : ∀ x, foldedSetIterable iter env x = pure x) (hE : PassesOwn (model prog w) A env E) :
    wpAny (model prog w) A (exec (.For target iter body orelse pos) env) Q E s := by
  refine wpAny_For (wpAny_mono h (fun xv s₁ q₁ => wpAny_mono q₁ (fun it s₂ q₂ => ?_) fun _ _ e => e) fun _ _ e => e) hs
  obtain ⟨I, fp, wr, n, P, Md, St, m, news, J, rfl, W, hLf, hwr, hnw, hst, F, N, h0, step, hdone⟩ := q₂
  refine codeAny_forLoop_any (fun k s' => ∃ (i : Nat) (g : Heap) (tk : Nat) (m' : Str → Option Value) (nw : List (Addr × Obj)), k + i = n ∧ s' = { s₂ with heap := g, toks := tk } ∧ St i g ∧ Fr h₀ env.locals g m' ∧ News h₀ env.locals g nw ∧ (∀ p ∈ nw, p.1 ∉ wr) ∧ J i m' nw) ?_ n
    ⟨0, s₂.heap, s₂.toks, m, news, rfl, rfl, hst, F, N, hnw, h0⟩
  rintro k s' ⟨i, g, tk, m', nw, hk, rfl, hSt, hF, hN, hoff, hJ⟩
  have keepL : ∀ g' : Heap, (∀ b o, b ∉ wr → g.get? b = some o → g'.get? b = some o) → Fr h₀ env.locals g' m' := fun g' hg =>
    ⟨hF.ns.at' fun o e => hg _ o (fun hb => hLf (W.sub _ hb)) e, fun b o e => hg b o (fun hb => by rw [hwr b hb] at e; cases e) (hF.keep b o e), hF.above⟩
  have keepN : ∀ g' : Heap, (∀ b o, b ∉ wr → g.get? b = some o → g'.get? b = some o) → News h₀ env.locals g' nw := fun g' hg p hp => ⟨hg _ _ (hoff p hp) (hN p hp).1, (hN p hp).2⟩
  cases k with
  | zero =>
    have hi : i = n := by omega
    subst hi
    exact W.done _ _ _ hSt fun g₁ tk₁ hg₁ => (hdone g₁ tk₁ m' nw (keepL g₁ hg₁) (keepN g₁ hg₁) hoff hJ).elim
  | succ k =>
    refine W.item i _ _ _ (by omega) hSt fun v g₁ tk₁ hMd hg₁ => ?_
    refine W.go i v _ _ _ hMd fun g₂ hP hSt₂ hg₂ => ?_
    have hg : ∀ b o, b ∉ wr → g.get? b = some o → g₂.get? b = some o := fun b o hb e => hg₂ b o hb (hg₁ b o hb e)
    have F₂ := keepL g₂ hg
    have Nown : News h₀ env.locals g₂ (ownOf h₀ fp g₂) := news_ownOf hLf
    refine wpAny_mono (step i v m' nw g₂ tk₁ (ownOf h₀ fp g₂) (by omega) hP hJ hoff ownOf_sub (fun p hp => (Nown p hp).1) (fun b hb hn o e => mem_ownOf hb hn e) hSt₂ F₂ (Nown.append (keepN g₂ hg)))
      (fun _ s₃ q => wpAny_passesOwn hE (wpAny_mono q (fun f s₄ q' => ?_) fun _ _ e => e)) hE
    have up : LoopStepU h₀ env.locals wr (ownOf h₀ fp g₂) (J (i + 1)) { s₂ with heap := g₂, toks := tk₁ } .next s₄ → ∃ k', k' < k + 1 ∧ ∃ (i : Nat) (g : Heap) (tk : Nat) (m' : Str → Option Value) (nw : List (Addr × Obj)), k' + i = n ∧ s₄ = { s₂ with heap := g, toks := tk } ∧ St i g ∧ Fr h₀ env.locals g m' ∧ News h₀ env.locals g nw ∧ (∀ p ∈ nw, p.1 ∉ wr) ∧ J i m' nw := by
      rintro ⟨_, g₄, tk₄, m₄, nw₄, rfl, F₄, N₄, off₄, J₄⟩
      refine ⟨k, Nat.lt_succ_self _, i + 1, g₄, tk₄, m₄, nw₄, by omega, rfl, W.frame _ _ _ hSt₂ fun b hb o e => ?_, F₄, N₄.right, off₄, J₄⟩
      cases hn : h₀.get? b with
      | none => exact (N₄ _ (List.mem_append_left _ (mem_ownOf hb hn e))).1
      | some o₀ =>
        have e2 := F₂.keep b o₀ hn
        rw [e] at e2
        rw [Option.some.inj e2]
        exact F₄.keep b o₀ hn
    cases f with
    | ret v => exact q'
    | brk => exact q'.elim
    | next => exact up q'
    | cont => exact up q'

theorem lp_enum {elts : List PySem.Expr} {k : Nat} {pos : Pos} {body : List Stmt} {l : Addr} {vs : List Value} {ns : List Int} {nn : Nat} {news : List (Addr × Obj)} (stored : List Str) (P : Nat → Prop)
    (hh : A.handled = none) (F : Fr h₀ env.locals s.heap m₀) (N : News h₀ env.locals s.heap news) (hm : (l, listOf vs.toArray nn) ∈ news) (hi : IntsAre vs ns) (hp : P 0)
    (turn : ∀ (a : Nat) (n : Int) t tj T (u : Str → Option Value) h tk its, ns[a]? = some n → P a → IsTup h T #[.int (a : Int) t, .int n tj] →
      Fr h₀ env.locals h (fun z => if stored.contains z then u z else m₀ z) → News h₀ env.locals h (its ++ news) →
      wpAny (model prog w) A (assign (.Tuple elts k pos) env (.ref T)) (fun _ s₂ => wpAny (model prog w) A (execs body env) (LpPost h₀ env.locals s (fun _ : Unit => its ++ news) [] (fun _ => []) stored m₀ (fun _ => P (a + 1)) Q) E s₂) E { s with heap := h, toks := tk })
    (done : ∀ (u : Str → Option Value) h tk, P ns.length → Fr h₀ env.locals h (fun z => if stored.contains z then u z else m₀ z) → News h₀ env.locals h news → Q .next { s with heap := h, toks := tk }) :
    wpAny (model prog w) A (call (.type "enumerate") [.ref l]) (fun xv s₁ => wpAny (model prog w) A (pyIter xv) (fun it s₂ => TurnsAt prog w A h₀ env (.Tuple elts k pos) body Q E it s₂) E s₁) E s := by
  refine ktu_enum hh F N hm rfl rfl rfl fun I hI => ?_
  have same : ∀ m : Str → Option Value, (∀ z, stored.contains z = false → m z = m₀ z) → m = fun z => if stored.contains z then m z else m₀ z := by
    intro m h
    funext z
    cases e : stored.contains z with
    | true => simp
    | false => simp [h z e]
  have key : ∀ (vs' : List Value) (ns' : List Int) (a : Nat) (m : Str → Option Value), IntsAre vs' ns' → (∀ j, ns[a + j]? = ns'[j]?) → a + ns'.length = ns.length → P a → (∀ z, stored.contains z = false → m z = m₀ z) →
      ItemsRest prog w A E h₀ env (.Tuple elts k pos) body Q s [(I + 1, "enumerate"), (I, "list_iterator")] [(l, listOf vs.toArray nn)] (enumItems a vs') m news := by
    intro vs' ns' a m hi'
    induction hi' generalizing a m with
    | nil =>
      intro _ hlen hP hm'
      refine ItemsRest.zero fun h tk F' N' => ?_
      rw [same m hm'] at F'
      exact done m h tk (by rw [List.length_nil] at hlen; rw [← hlen]; exact hP) F' N'
    | @cons n tj vs'' ns'' hi'' ih =>
      intro hget hlen hP hm'
      refine ItemsRest.pair fun T t h tk hT F' => ?_
      intro o1 hc1 o2 hc2 N'
      rw [same m hm'] at F'
      have hget0 : ns[a]? = some n := by have := hget 0; simpa using this
      refine wpAny_mono (turn a n t tj T m h tk _ hget0 hP hT F' N') (fun x s₂ q => wpAny_mono q (fun f s₃ q => ?_) fun _ _ e => e) fun _ _ e => e
      have up : LpEx h₀ env.locals s (fun _ : Unit => [(I + 1, o1), (I, o2)] ++ news) [] (fun _ => []) stored m₀ (fun _ => P (a + 1)) s₃ → UnrEndW h₀ env.locals { s with heap := h, toks := tk } [(I + 1, o1), (I, o2)] (fun m' n' => SubL [(l, listOf vs.toArray nn)] n' ∧ ItemsRest prog w A E h₀ env (.Tuple elts k pos) body Q s [(I + 1, "enumerate"), (I, "list_iterator")] [(l, listOf vs.toArray nn)] (enumItems (a + 1) vs'') m' n') s₃ := by
        rintro ⟨_, h', tk', m', rfl, F2, N2, _, hr, hP'⟩
        rw [List.append_nil] at N2
        refine ⟨h', tk', m', news, rfl, F2, N2, ?_, ⟨hm, trivial⟩, ih (a + 1) m' (fun j => ?_) ?_ hP' fun z hz => hr z (fun p hp => nomatch hp) hz⟩
        · intro p hp q hq
          have := hI p hp
          rcases List.mem_cons.mp hq with rfl | hq
          · exact Nat.ne_of_lt (Nat.lt_succ_of_lt this)
          · rw [List.mem_singleton.mp hq]; exact Nat.ne_of_lt this
        · have := hget (j + 1)
          rw [show a + 1 + j = a + (j + 1) by omega, this]
          simp
        · rw [List.length_cons] at hlen; omega
      cases f with
      | ret v => exact q
      | brk => exact q
      | next => exact up q
      | cont => exact up q
  exact key vs ns 0 m₀ hi (fun j => by rw [Nat.zero_add]) (Nat.zero_add _) hp fun _ _ => rfl

/-- list(range(a, b, c)), laid onto the ledger -/
theorem list_range_mk {r : Addr} {a b c : Int} {t u v : Tok} (n : Nat) {news : List (Addr × Obj)} {Q : Value → Shared → Prop} (hh : A.handled = none) (Fh : Fr h₀ L s.heap m₀) (N : News h₀ L s.heap news)
    (hr : IsRange s.heap r a b c t u v) (hsmall : Builtin.Range.small a b c = true) (hn : Builtin.Range.rangeSize a b c = (n : Int)) (hlen : n ≤ 2 ^ 24)
    (hQ : ∀ D h' tk (ys : List Value) cnt, Fr h₀ L h' m₀ → News h₀ L h' ((D, listOf ys.toArray cnt) :: news) → (∀ p ∈ news, p.1 ≠ D) → IntsAre ys (rangeInts a c n) → Q (.ref D) { s with heap := h', toks := tk }) :
    wpAny (model prog w) A (call (.type "list") [.ref r]) Q E s := by
  refine list_rangeD hh Fh N hr hsmall hn hlen ?_
  intro h' tk ys F' N' _ hno _ hnp hca
  obtain ⟨cnt, N6⟩ := made_enters hnp F' N' hno
  refine hQ _ h' tk ys cnt F' N6 (fun p hp e => ?_) ?_
  · exact absurd (Heap.lt_size (N p hp).1) (by rw [e]; exact Nat.lt_irrefl _)
  · have q := hca.intsOf
    rw [List.map_id'] at q
    exact q
end

end Mine
end

section
open PySem PySem.W PySem.Calls PyProof.Rows
set_option Elab.async false
namespace Mine
local macro_rules | `(tactic| omega) => `(tactic| first | decide | lia)

set_option maxRecDepth 100000
set_option maxHeartbeats 4000000
theorem c_sub (w : World) (mean : ExcName → Option Value) (mg mb : Str → Option Value) (news : List (Addr × Obj)) (a b : Str) (ta tb : Tok) (ha : a.length ≤ 1) (hb : b.length ≤ 1) :
   Cl w mean mg mb 21 news 1 [.str a ta, .str b tb] (RetI news (subC a b)) := by
  w_top off
  unfold Cl
  k_fill
  intro dp un gd cn cs a1 ccd cl outer A₀ base h₀ L m s Q E B F X N T hk hd hu hret
  refine wpAny_call ?_
  k_dflt cell_enter
  k_steps
  all_goals (refine retI hret ?_ (by assumption) (by assumption) (fun p hp => hp); simp_all [subC])
end Mine
end

section
open PySem PySem.W PySem.Calls PyProof.Rows
set_option Elab.async false
namespace Mine
local macro_rules | `(tactic| omega) => `(tactic| first | decide | lia)
set_option maxRecDepth 100000
set_option maxHeartbeats 4000000
local macro_rules | `(tactic| k_all) => `(tactic| assumption)
local macro_rules | `(tactic| k_mem) => `(tactic| assumption)

theorem c_lt (w : World) (mean : ExcName → Option Value) (mg mb : Str → Option Value) (news : List (Addr × Obj)) (x y : Int) (tx ty : Tok) :
   Cl w mean mg mb 35 news 1 [.int x tx, .int y ty] (RetB news (decide (x < y))) := by
  w_top off
  unfold Cl
  k_fill
  intro dp un gd cn cs a1 ccd cl outer A₀ base h₀ L m s Q E B F X N T hk hdp hu hret
  refine wpAny_call ?_
  k_dflt cell_enter
  k_with_none
  k_with "exec While" => refine Stop.out ?_
  k_with "LpQ" => first | refine lpQ_ret ?_ | refine lpQ_next ?_ | refine lpQ_brk ?_ | refine lpQ_cont ?_
  k_with "LpPost" => first | refine lpPost_ret ?_ | refine lpPost_next ?_ | refine lpPost_brk ?_ | refine lpPost_cont ?_
  k_with "go" => repeat' (first | (k_unfold; (try dsimp only)) | walk1 | (dsimp only; walk1) | (leave1; try dsimp only))
  k_with "hr" => (intro z h2 h3; (simp only [List.forall_mem_cons, List.not_mem_nil, false_implies, implies_true, and_true, ne_eq] at h2); (simp only [List.contains_cons, List.contains_nil, Bool.or_false, Bool.or_eq_false_iff, beq_eq_false_iff_ne, ne_eq] at h3); (simp [kstB, h2, h3]; done))
  k_with "lp" => ((case hF => assumption); (case hk => kst_all); (case hN => assumption); (case hs => kstt_sub); (case hr => k_extra "hr"))
  k_with "subscriptTail Name Slice str ref" => ((with_reducible show wpAny _ _ (subscriptTail _ (Expr.Slice none (some (Expr.BoolOp _ _ _)) none _) _ _) _ _ _); (rename Fr _ _ _ _ => lF'); (rename News _ _ _ _ => lN'); (try dsimp only); (refine slice_strN_nn (hsz := ?hsz) (s := ⟨_, _, _, _, _⟩) lF' lN' ?_); (case hsz => size_fits); intro _ _ _ _ _; (try rw [slice_nn]))
  k_with "ite" => first | (refine ine_t (by omega) ?_) | (refine ine_f (by omega) ?_)
  k_with "exec For" => ((rename Fr _ _ _ _ => lF'); (with_unfolding_all refine' For_invVF lF' ?k1 ?k2 ?_; (case k1 => exact rfl); (case k2 => exact rfl); k_whole))
  k_with "pyIter ref" => refine Stop.out ?_
  k_extra "go"
  exact retB hret rfl (by assumption) (by assumption) (fun p hp => hp)

theorem c_xor (w : World) (mean : ExcName → Option Value) (mg mb : Str → Option Value) (news : List (Addr × Obj)) (x y : Int) (tx ty : Tok) :
   Cl w mean mg mb 42 news 1 [.int x tx, .int y ty] (RetI news (Builtin.bitXor x y)) := by
  w_top off
  unfold Cl
  k_fill
  intro dp un gd cn cs a1 ccd cl outer A₀ base h₀ L m s Q E B F X N T hk hdp hu hret
  refine wpAny_call ?_
  k_dflt cell_enter
  k_with_none
  k_with "exec While" => refine Stop.out ?_
  k_with "LpQ" => first | refine lpQ_ret ?_ | refine lpQ_next ?_ | refine lpQ_brk ?_ | refine lpQ_cont ?_
  k_with "LpPost" => first | refine lpPost_ret ?_ | refine lpPost_next ?_ | refine lpPost_brk ?_ | refine lpPost_cont ?_
  k_with "go" => repeat' (first | (k_unfold; (try dsimp only)) | walk1 | (dsimp only; walk1) | (leave1; try dsimp only))
  k_with "hr" => (intro z h2 h3; (simp only [List.forall_mem_cons, List.not_mem_nil, false_implies, implies_true, and_true, ne_eq] at h2); (simp only [List.contains_cons, List.contains_nil, Bool.or_false, Bool.or_eq_false_iff, beq_eq_false_iff_ne, ne_eq] at h3); (simp [kstB, h2, h3]; done))
  k_with "lp" => ((case hF => assumption); (case hk => kst_all); (case hN => assumption); (case hs => kstt_sub); (case hr => k_extra "hr"))
  k_with "subscriptTail Name Slice str ref" => ((with_reducible show wpAny _ _ (subscriptTail _ (Expr.Slice none (some (Expr.BoolOp _ _ _)) none _) _ _) _ _ _); (rename Fr _ _ _ _ => lF'); (rename News _ _ _ _ => lN'); (try dsimp only); (refine slice_strN_nn (hsz := ?hsz) (s := ⟨_, _, _, _, _⟩) lF' lN' ?_); (case hsz => size_fits); intro _ _ _ _ _; (try rw [slice_nn]))
  k_with "ite" => first | (refine ine_t (by omega) ?_) | (refine ine_f (by omega) ?_)
  k_with "exec For" => ((rename Fr _ _ _ _ => lF'); (with_unfolding_all refine' For_invVF lF' ?k1 ?k2 ?_; (case k1 => exact rfl); (case k2 => exact rfl); k_whole))
  k_with "pyIter ref" => refine Stop.out ?_
  k_extra "go"
  exact retI hret rfl (by assumption) (by assumption) (fun p hp => hp)

theorem c_iseof (w : World) (mean : ExcName → Option Value) (mg mb : Str → Option Value) (news : List (Addr × Obj)) (x : Int) (tx : Tok) :
   Cl w mean mg mb 80 news 1 [.int x tx] (RetB news (x == 0)) := by
  w_top off
  unfold Cl
  k_fill
  intro dp un gd cn cs a1 ccd cl outer A₀ base h₀ L m s Q E B F X N T hk hdp hu hret
  refine wpAny_call ?_
  k_dflt cell_enter
  k_with_none
  k_with "exec While" => refine Stop.out ?_
  k_with "LpQ" => first | refine lpQ_ret ?_ | refine lpQ_next ?_ | refine lpQ_brk ?_ | refine lpQ_cont ?_
  k_with "LpPost" => first | refine lpPost_ret ?_ | refine lpPost_next ?_ | refine lpPost_brk ?_ | refine lpPost_cont ?_
  k_with "go" => repeat' (first | (k_unfold; (try dsimp only)) | walk1 | (dsimp only; walk1) | (leave1; try dsimp only))
  k_with "hr" => (intro z h2 h3; (simp only [List.forall_mem_cons, List.not_mem_nil, false_implies, implies_true, and_true, ne_eq] at h2); (simp only [List.contains_cons, List.contains_nil, Bool.or_false, Bool.or_eq_false_iff, beq_eq_false_iff_ne, ne_eq] at h3); (simp [kstB, h2, h3]; done))
  k_with "lp" => ((case hF => assumption); (case hk => kst_all); (case hN => assumption); (case hs => kstt_sub); (case hr => k_extra "hr"))
  k_with "subscriptTail Name Slice str ref" => ((with_reducible show wpAny _ _ (subscriptTail _ (Expr.Slice none (some (Expr.BoolOp _ _ _)) none _) _ _) _ _ _); (rename Fr _ _ _ _ => lF'); (rename News _ _ _ _ => lN'); (try dsimp only); (refine slice_strN_nn (hsz := ?hsz) (s := ⟨_, _, _, _, _⟩) lF' lN' ?_); (case hsz => size_fits); intro _ _ _ _ _; (try rw [slice_nn]))
  k_with "ite" => first | (refine ine_t (by omega) ?_) | (refine ine_f (by omega) ?_)
  k_with "exec For" => ((rename Fr _ _ _ _ => lF'); (with_unfolding_all refine' For_invVF lF' ?k1 ?k2 ?_; (case k1 => exact rfl); (case k2 => exact rfl); k_whole))
  k_with "pyIter ref" => refine Stop.out ?_
  k_extra "go"
  exact retB hret rfl (by assumption) (by assumption) (fun p hp => hp)

theorem c_isterm (w : World) (mean : ExcName → Option Value) (mg mb : Str → Option Value) (news : List (Addr × Obj)) (x : Int) (tx : Tok) :
   Cl w mean mg mb 66 news 1 [.int x tx] (RetB news (decide (x < 256))) := by
  w_top off
  unfold Cl
  k_fill
  intro dp un gd cn cs a1 ccd cl outer A₀ base h₀ L m s Q E B F X N T hk hdp hu hret
  refine wpAny_call ?_
  k_dflt cell_enter
  k_with_none
  k_with "exec While" => refine Stop.out ?_
  k_with "LpQ" => first | refine lpQ_ret ?_ | refine lpQ_next ?_ | refine lpQ_brk ?_ | refine lpQ_cont ?_
  k_with "LpPost" => first | refine lpPost_ret ?_ | refine lpPost_next ?_ | refine lpPost_brk ?_ | refine lpPost_cont ?_
  k_with "go" => repeat' (first | (k_unfold; (try dsimp only)) | walk1 | (dsimp only; walk1) | (leave1; try dsimp only))
  k_with "hr" => (intro z h2 h3; (simp only [List.forall_mem_cons, List.not_mem_nil, false_implies, implies_true, and_true, ne_eq] at h2); (simp only [List.contains_cons, List.contains_nil, Bool.or_false, Bool.or_eq_false_iff, beq_eq_false_iff_ne, ne_eq] at h3); (simp [kstB, h2, h3]; done))
  k_with "lp" => ((case hF => assumption); (case hk => kst_all); (case hN => assumption); (case hs => kstt_sub); (case hr => k_extra "hr"))
  k_with "subscriptTail Name Slice str ref" => ((with_reducible show wpAny _ _ (subscriptTail _ (Expr.Slice none (some (Expr.BoolOp _ _ _)) none _) _ _) _ _ _); (rename Fr _ _ _ _ => lF'); (rename News _ _ _ _ => lN'); (try dsimp only); (refine slice_strN_nn (hsz := ?hsz) (s := ⟨_, _, _, _, _⟩) lF' lN' ?_); (case hsz => size_fits); intro _ _ _ _ _; (try rw [slice_nn]))
  k_with "ite" => first | (refine ine_t (by omega) ?_) | (refine ine_f (by omega) ?_)
  k_with "exec For" => ((rename Fr _ _ _ _ => lF'); (with_unfolding_all refine' For_invVF lF' ?k1 ?k2 ?_; (case k1 => exact rfl); (case k2 => exact rfl); k_whole))
  k_with "pyIter ref" => refine Stop.out ?_
  k_extra "go"
  exact retB hret rfl (by assumption) (by assumption) (fun p hp => hp)

theorem c_isnont (w : World) (mean : ExcName → Option Value) (mg mb : Str → Option Value) (news : List (Addr × Obj)) (x : Int) (tx : Tok) :
   Cl w mean mg mb 73 news 1 [.int x tx] (RetB news (decide (x ≥ 256))) := by
  w_top off
  unfold Cl
  k_fill
  intro dp un gd cn cs a1 ccd cl outer A₀ base h₀ L m s Q E B F X N T hk hdp hu hret
  refine wpAny_call ?_
  k_dflt cell_enter
  k_with_none
  k_with "exec While" => refine Stop.out ?_
  k_with "LpQ" => first | refine lpQ_ret ?_ | refine lpQ_next ?_ | refine lpQ_brk ?_ | refine lpQ_cont ?_
  k_with "LpPost" => first | refine lpPost_ret ?_ | refine lpPost_next ?_ | refine lpPost_brk ?_ | refine lpPost_cont ?_
  k_with "go" => repeat' (first | (k_unfold; (try dsimp only)) | walk1 | (dsimp only; walk1) | (leave1; try dsimp only))
  k_with "hr" => (intro z h2 h3; (simp only [List.forall_mem_cons, List.not_mem_nil, false_implies, implies_true, and_true, ne_eq] at h2); (simp only [List.contains_cons, List.contains_nil, Bool.or_false, Bool.or_eq_false_iff, beq_eq_false_iff_ne, ne_eq] at h3); (simp [kstB, h2, h3]; done))
  k_with "lp" => ((case hF => assumption); (case hk => kst_all); (case hN => assumption); (case hs => kstt_sub); (case hr => k_extra "hr"))
  k_with "subscriptTail Name Slice str ref" => ((with_reducible show wpAny _ _ (subscriptTail _ (Expr.Slice none (some (Expr.BoolOp _ _ _)) none _) _ _) _ _ _); (rename Fr _ _ _ _ => lF'); (rename News _ _ _ _ => lN'); (try dsimp only); (refine slice_strN_nn (hsz := ?hsz) (s := ⟨_, _, _, _, _⟩) lF' lN' ?_); (case hsz => size_fits); intro _ _ _ _ _; (try rw [slice_nn]))
  k_with "ite" => first | (refine ine_t (by omega) ?_) | (refine ine_f (by omega) ?_)
  k_with "exec For" => ((rename Fr _ _ _ _ => lF'); (with_unfolding_all refine' For_invVF lF' ?k1 ?k2 ?_; (case k1 => exact rfl); (case k2 => exact rfl); k_whole))
  k_with "pyIter ref" => refine Stop.out ?_
  k_extra "go"
  exact retB hret rfl (by assumption) (by assumption) (fun p hp => hp)

theorem c_contains (w : World) (mean : ExcName → Option Value) (mg mb : Str → Option Value) (news : List (Addr × Obj)) (lo : Addr) (vo : List Value) (os : List Int) (co : Nat) (x : Int) (tx : Tok) (hm : (lo, listOf vo.toArray co) ∈ news) (ho : IntsAre vo os) :
   Cl w mean mg mb 49 news 1 [.ref lo, .int x tx] (RetB news (os.any (· == x))) := by
  w_top off
  unfold Cl
  k_fill
  intro dp un gd cn cs a1 ccd cl outer A₀ base h₀ L m s Q E B F X N T hk hdp hu hret
  refine wpAny_call ?_
  k_dflt cell_enter
  k_with_none
  k_with "exec While" => refine Stop.out ?_
  k_with "LpQ" => first | refine lpQ_ret ?_ | refine lpQ_next ?_ | refine lpQ_brk ?_ | refine lpQ_cont ?_
  k_with "LpPost" => first | refine lpPost_ret ?_ | refine lpPost_next ?_ | refine lpPost_brk ?_ | refine lpPost_cont ?_
  k_with "go" => repeat' (first | (k_unfold; (try dsimp only)) | walk1 | (dsimp only; walk1) | (leave1; try dsimp only))
  k_with "hr" => (intro z h2 h3; (simp only [List.forall_mem_cons, List.not_mem_nil, false_implies, implies_true, and_true, ne_eq] at h2); (simp only [List.contains_cons, List.contains_nil, Bool.or_false, Bool.or_eq_false_iff, beq_eq_false_iff_ne, ne_eq] at h3); (simp [kstB, h2, h3]; done))
  k_with "lp" => ((case hF => assumption); (case hk => kst_all); (case hN => assumption); (case hs => kstt_sub); (case hr => k_extra "hr"))
  k_with "subscriptTail Name Slice str ref" => ((with_reducible show wpAny _ _ (subscriptTail _ (Expr.Slice none (some (Expr.BoolOp _ _ _)) none _) _ _) _ _ _); (rename Fr _ _ _ _ => lF'); (rename News _ _ _ _ => lN'); (try dsimp only); (refine slice_strN_nn (hsz := ?hsz) (s := ⟨_, _, _, _, _⟩) lF' lN' ?_); (case hsz => size_fits); intro _ _ _ _ _; (try rw [slice_nn]))
  k_with "ite" => first | (refine ine_t (by omega) ?_) | (refine ine_f (by omega) ?_)
  k_with "exec For" => ((rename Fr _ _ _ _ => lF'); (with_unfolding_all refine' For_invVF lF' ?k1 ?k2 ?_; (case k1 => exact rfl); (case k2 => exact rfl); k_whole))
  k_with "pyIter ref" => refine Stop.out ?_
  k_with "compareOp In int ref" => refine in_list_ints (News.isList (by assumption) (by assumption)) (by assumption) ?_
  k_extra "go"
  exact retB hret rfl (by assumption) (by assumption) (fun p hp => hp)
end Mine
end

section
open PySem PySem.W
set_option Elab.async false
namespace Mine
local macro_rules | `(tactic| omega) => `(tactic| first | decide | lia)

theorem setGen_toks (s : Shared) (g : Nat) (x : GenState) : (s.setGen g x).toks = s.toks := rfl

theorem runs_toks {M : Model} {Γ : Ctx} {p : Pos} {t : Sem Fin} {fs : List Frame} {s s' : Shared} {e : End} (h : Runs M Γ p t fs s e s') : s.toks ≤ s'.toks := by
  induction h <;> (try simp only [setGen_toks] at *) <;> omega

theorem wakes_toks {M : Model} {Γ : Ctx} {p : Pos} {g : Nat} {r : Resume} {s s' : Shared} {res : GenResult} (h : Wakes M Γ p g r s res s') : s.toks ≤ s'.toks := by
  unfold Wakes at h
  repeat' split at h
  all_goals first
    | exact h.elim
    | (obtain ⟨_, e⟩ := h; subst e; exact Nat.le_refl _)
    | (obtain ⟨e₁, s₁, h₁, _, _, e⟩ := h; subst e; exact (runs_toks h₁ : _))

theorem wp_toks {X : Type} {M : Model} {Γ : Ctx} {Q : X → Pos → Shared → Prop} {E : Value → Pos → Shared → Prop} (t : Sem X) (p : Pos) (s : Shared) (h : t.wp M Γ Q E p s) :
    ∀ n, n ≤ s.toks → t.wp M Γ (fun a p' s' => Q a p' s' ∧ n ≤ s'.toks) (fun a p' s' => E a p' s' ∧ n ≤ s'.toks) p s := by
  revert h
  induction t generalizing p s with
  | pure x => exact fun h n hn => ⟨h, hn⟩
  | raise v => exact fun h n hn => ⟨h, hn⟩
  | unsupported | finish | yield | fork | await | register => exact fun h => h.elim
  | rule _ k ih | «at» _ k ih | alloc _ k ih | loadIfAlive _ k ih | point _ k ih | ask k ih | os _ _ k ih | handled _ k ih | newGen _ k ih | stack k ih | thread k ih => exact fun h n hn => ih _ _ _ h n hn
  | fresh k ih => exact fun h n hn => ih _ _ _ h n (Nat.le_succ_of_le hn)
  | load a _ k ih | genState a k ih => exact fun ⟨o, ho, h⟩ n hn => ⟨o, ho, ih _ _ _ h n hn⟩
  | update a _ f k ih | choose _ _ k ih => exact fun ⟨ha, h⟩ n hn => ⟨ha, ih _ _ _ h n hn⟩
  | call c h g l k ih => exact fun ⟨r, s', hr, h⟩ n hn => ⟨r, s', hr, ih _ _ _ h n (Nat.le_trans hn (runs_toks hr))⟩
  | resume g r l k ih => exact fun ⟨res, s', hw, h⟩ n hn => ⟨res, s', hw, ih _ _ _ h n (Nat.le_trans hn (wakes_toks hw))⟩

theorem wpAny_toks {X : Type} {M : Model} {A : Around} {Q : X → Shared → Prop} {E : Value → Shared → Prop} {t : Sem X} {s : Shared} (h : wpAny M A t Q E s) :
    wpAny M A t (fun a s' => Q a s' ∧ s.toks ≤ s'.toks) (fun a s' => E a s' ∧ s.toks ≤ s'.toks) s :=
  fun Γ p hΓ => wp_toks t p s (h Γ p hΓ) s.toks (Nat.le_refl _)

theorem wpAny_of_toks {X : Type} {M : Model} {A : Around} {Q : X → Shared → Prop} {E : Value → Shared → Prop} {t : Sem X} {s : Shared} (h : wpAny M A t (fun a s' => s.toks ≤ s'.toks → Q a s') E s) :
    wpAny M A t Q E s :=
  wpAny_mono (wpAny_toks h) (fun _ _ x => x.1 x.2) fun _ _ x => x.1
end Mine
end

section
open PySem PySem.W PySem.Calls PyProof.Rows
set_option Elab.async false
namespace MineH

noncomputable def tokHook (K : Params → Frag) (as : List Addr) (e : ∀ P, as = (K P).map (·.1)) (n : Nat) : Hook where
  α := List (Option Obj) × Nat
  obs := fun s => (as.map s.heap.get?, s.toks)
  val := fun w => ((K w.params).map fun p => some p.2, n)
  says := InK K
  of := fun w s h => InK.of e w s (congrArg Prod.fst h)
  keeps := InK.keeps

abbrev WalkT (q : Program) (loose : List Str) (XP : (Str → Option Value) → Heap → Prop) (YP : World → Heap → Prop) (r : RowW) (d : DefRec) (kwd : List (Str × Expr)) (run : Value → List Value → Sem Value) (n : Nat) : Prop :=
  ∀ (w : World) (s₀ s₁ : Shared) (mg mb : Str → Option Value), Ground q loose r.records XP w s₀ mg mb s₁.heap → YP w s₁.heap → ∀ (a : Addr) (o : Obj) (pm cd doc dV kV : Value), s₁.heap.get? a = some o →
    o.data = .func { docDef d.name d.params d.body d.scope pm cd doc with defaults := dV, kwdefaults := kV } → s₁.heap.CodeRec cd d.name → Dflts mg s₁.heap d.params kwd dV kV → mg d.name = some (.ref a) → s₁.gens = #[] →
    ∀ (args : List WData) (vals : List Value) (as : List Addr), r.claim.pre args = true → WData.layableAll args = true → ReadsAllW r.records (classAt s₀.heap) s₁.heap vals args as → WellAll w.params s₁.heap vals args → (∀ a ∈ as, (a == sysModules) = false) → n ≤ s₁.toks →
      wpAny (model r.prog w) callerA (run (.ref a) vals) (fun v s' => GoodWG r.claim (classAt s₀.heap) (ExcName.means s₀.heap) args s₁ (.ok (.ret v)) s')
        (fun e s' => GoodWG r.claim (classAt s₀.heap) (ExcName.means s₀.heap) args s₁ (.error e) s') s₁

theorem holds_openT {r : OpenRow} {q : Program} {loose : List Str} {Xt : Shared → Bool} {XP : (Str → Option Value) → Heap → Prop} {α : Type} {Yf : Shared → α} {Ya : World → α} {YP : World → Heap → Prop} {d : DefRec} {kwd : List (Str × Expr)} {N : Nat}
    (left : LeftO r.prog q loose Xt Yf Ya N) (hY : ∀ w s, Yf s = Ya w → YP w s.heap) (hYk : ∀ w h h', YP w h → (∀ b o, h.get? b = some o → h'.get? b = some o) → YP w h')
    (hX : ∀ s, Xt s = true → XP (s.heap.nsMap mainGlobals) s.heap) (hXk : ∀ mg h h', XP mg h → (∀ b o, h.get? b = some o → h'.get? b = some o) → XP mg h')
    (hdef : defOf q r.name = some (d, kwd)) (hp : r.prog.theDef r.name = some (d.params, d.body, d.scope)) (hk : kwWritten? d.params.kwonlyargs d.params.kw_defaults = some kwd) (hRf : ∀ s, Xt s = true → RecFacts r.records s.heap) (hwr : (!r.writes || r.records.isEmpty) = true)
    (k1 : r.wellSaid = true) (ok : (chainsOk q && opensWell r.prog && (frees r.toRowW && r.within.isEmpty)) = true) (hb : r.prog.bare) (hw : r.toRowW.promised)
    (call : WalkT q loose XP YP r.toRowW d kwd (fun f vs => PySem.call f vs) 400)
    (ht : ∀ w s, Yf s = Ya w → 400 ≤ s.toks := by
      intro w s h
      have h2 := congrArg (fun x : List (Option Obj) × Nat => x.2) h
      exact Nat.le_trans (Nat.le_of_ble_eq_true rfl : 400 ≤ 577) (Nat.le_of_eq h2.symm)) : r.Holds := by
  refine ⟨k1, hw, ?_⟩
  obtain ⟨ok', k5⟩ := Bool.and_eq_true_iff.mp ok
  obtain ⟨hch, o1⟩ := Bool.and_eq_true_iff.mp ok'
  obtain ⟨k5, k6⟩ := Bool.and_eq_true_iff.mp k5
  obtain ⟨hsame, hu, ha, hap, hm⟩ := frees_parts k5
  refine ⟨⟨hb, o1, by show r.makers.map _ = []; rw [hm]; rfl⟩, hw.witness, fun w => ⟨(left.behind hX hch w).1, fun s' hs' => ?_⟩⟩
  obtain ⟨t₀, hf, hg0, s, hT, hz, hgens, hg, G00, y⟩ := (left.behind (XP := fun mg h => XP mg h ∧ RecFacts r.toRowW.records h) (fun s hs => ⟨hX s hs, hRf s hs⟩) hch w).2 s' hs'
  have G0 : Ground q loose [] XP w s (s.heap.nsMap mainGlobals) (s.heap.nsMap builtinsNs) s.heap := ⟨G00.T, G00.B, G00.D, G00.TE, G00.TD, G00.W, G00.X.1, G00.cls, G00.has, G00.apart, G00.once, G00.K⟩
  have RF := G00.X.2
  have gens0 : s.gens = #[] := Array.eq_empty_of_size_eq_zero (beq_iff_eq.mp hgens)
  have G := RF.ground G0
  refine ⟨t₀, hf, hg0, s, hT, fun n hn => ?_, RF.1, RF.2.1, ?_⟩
  · obtain rfl : n = r.name := by split at hn <;> simp_all
    exact pinned_of_view hg G0 hdef hp hk
  refine ClaimW.callFrom_of_specG (c := r.toRowW.claim) hz gens0 fun args hpre hlay ord hord => ?_
  obtain ⟨⟨vs, s₁⟩, hlaid⟩ := Option.isSome_iff_exists.mp (layAllW_isSome (P := w.params) (ord := ord) G.has args r.args s (pre_splitW hpre).1)
  have grow := layAllW_grows _ _ _ hlaid
  have keeps := grow.keeps
  obtain ⟨as, hrd, hin, hold⟩ := reads_layAllW hord _ _ _ hlaid hlay s₁.heap (fun _ _ e => e)
  have L : Laid r.toRowW.records w s s₁ args vs as := ⟨⟨ord, hord, hlaid⟩, hrd, hin, hold, keeps, grow.alike.1.trans gens0, grow.alike.2.2.1⟩
  have G₁ := G.keeps hXk keeps
  obtain ⟨a, o, pm, cd, doc, dV, kV, h1, h2, h3, h4, h5⟩ := G₁.fn hdef
  have hc := call w s s₁ _ _ G₁ (hYk _ _ _ (hY w s y) keeps) a o pm cd doc dV kV h2 h3 h4 h5 (defOf_name hdef ▸ h1) L.gens args vs as hpre hlay L.reads
    (well_layAllW hord args s _ hlaid _ fun _ _ e => e) (L.low G.low) (Nat.le_trans (ht w s y) grow.toks)
  have hi := ident_freeW hu ha hap
  have hwi : r.toRowW.claim.within = [] := List.isEmpty_iff.mp k6
  refine ⟨vs, s₁, hlaid, wpAny_bind (wpAny_nsGet G₁.T.g ?_)⟩
  rw [h1]
  refine wpAny_bind (wpAny_mono hc (fun v s' g => wpAny_pure ?_) fun e s' g => ?_)
  · have z := g.laid (c := r.toRowW.claim) hsame hwi hi L
    exact ⟨_, rfl, z.1, z.2.1, z.2.2, fun q => ⟨namesKept_of hT hg _ keeps g.2.1.old, noTable hwr q⟩⟩
  · have z := g.laid (c := r.toRowW.claim) hsame hwi hi L
    exact ⟨z.1, z.2.1, z.2.2, fun q => ⟨namesKept_of hT hg _ keeps g.2.1.old, noTable hwr q⟩⟩
/-- the addresses of the objects that the law reaches -/
abbrev asL : List Addr := [2, 3, 15, 17, 18, 20, 21, 22, 24, 25, 27, 28, 29, 31, 32, 34, 35, 36, 38, 39, 41, 42, 43, 45, 46, 48, 49, 50, 52, 53,
  55, 56, 57, 60, 62, 63, 65, 66, 67, 69, 70, 72, 73, 74, 76, 77, 79, 80, 81, 83, 84, 86, 87, 88, 90, 91, 93, 94, 95,
  97, 98, 100, 101, 102, 104, 105, 107, 108, 109, 111, 112, 114, 115, 116, 118, 119, 121, 122, 123, 125, 126, 128, 129,
  130, 132, 133, 135, 136, 137, 139, 140, 142, 143, 144, 147, 148, 149, 152, 153, 154, 157, 158]
/-- what is left to show: the law's call, the top having run; a class, so that it stays at hand in the head's goals -/
class Walked : Prop where
  out : ∀ (d : DefRec) (kwd : List (Str × Expr)), defOf Mine.hd.view_1_40 PySem.Challenge.rw_tc0053_01.row.name = some (d, kwd) →
    WalkT Mine.hd.view_1_40 [Str.ofString "EXACT_TOKEN_TYPES"] (XL Mine.hd.view_1_40 []) (InK Mine.hd.heap_1_39) PySem.Challenge.rw_tc0053_01.row.toRowW d kwd (fun f vs => PySem.call f vs) 400
theorem Walked.of {d : DefRec} {kwd : List (Str × Expr)} (h : defOf Mine.hd.view_1_40 PySem.Challenge.rw_tc0053_01.row.name = some (d, kwd))
    (w : WalkT Mine.hd.view_1_40 [Str.ofString "EXACT_TOKEN_TYPES"] (XL Mine.hd.view_1_40 []) (InK Mine.hd.heap_1_39) PySem.Challenge.rw_tc0053_01.row.toRowW d kwd (fun f vs => PySem.call f vs) 400) : Walked :=
  ⟨fun d' kwd' h' => by rw [h] at h'; cases h'; exact w⟩
/-- the raw name that the head's line looks up: the head is said of the view at hand, and tells the tokens -/
theorem PySem.W.holds_open [W : Walked] {r : OpenRow} {q : Program} {loose : List Str} {Xt : Shared → Bool} {XP : (Str → Option Value) → Heap → Prop} {α : Type} {Yf : Shared → α} {Ya : World → α} {YP : World → Heap → Prop} {d : DefRec} {kwd : List (Str × Expr)} {N : Nat}
    (left : LeftO r.prog Mine.hd.view_1_40 loose (fun s => xlAt Mine.hd.view_1_40 [] s && recOk r.toRowW.records s) (fun s => (MineH.asL.map s.heap.get?, s.toks)) (fun w => ((Mine.hd.heap_1_39 w.params).map fun p => some p.2, 577)) N)
    (_hY : ∀ w s, Yf s = Ya w → YP w s.heap) (_hYk : ∀ w h h', YP w h → (∀ b o, h.get? b = some o → h'.get? b = some o) → YP w h')
    (_hX : ∀ s, Xt s = true → XP (s.heap.nsMap mainGlobals) s.heap) (_hXk : ∀ mg h h', XP mg h → (∀ b o, h.get? b = some o → h'.get? b = some o) → XP mg h')
    (hdef : defOf q r.name = some (d, kwd)) (hp : r.prog.theDef r.name = some (d.params, d.body, d.scope)) (hk : kwWritten? d.params.kwonlyargs d.params.kw_defaults = some kwd) (_hRf : ∀ s, Xt s = true → RecFacts r.records s.heap) (hwr : (!r.writes || r.records.isEmpty) = true)
    (k1 : r.wellSaid = true) (ok : (chainsOk q && opensWell r.prog && (frees r.toRowW && r.within.isEmpty)) = true) (hb : r.prog.bare) (hw : r.toRowW.promised) (_call : True)
    (hq : q = Mine.hd.view_1_40 := by kernel_rfl) (hr : r = PySem.Challenge.rw_tc0053_01.row := by rfl) (hl : loose = [Str.ofString "EXACT_TOKEN_TYPES"] := by rfl) : r.Holds := by
  subst hq hr hl
  exact holds_openT left (fun w s h => InK.of (fun _ => by kernel_rfl) w s (congrArg Prod.fst h)) InK.keeps (fun s e => xl_of s (Bool.and_eq_true_iff.mp e).1) XL.keeps hdef hp hk (fun s e => recFacts_of (Bool.and_eq_true_iff.mp e).2) hwr k1 ok hb hw (W.out d kwd hdef)
    (fun w s h => Nat.le_trans (Nat.le_of_ble_eq_true rfl : 400 ≤ 577) (Nat.le_of_eq (congrArg Prod.snd h).symm))
end MineH
end

section
open PySem PySem.W PyProof.Rows
set_option Elab.async false
namespace MineH
/- these names are taken: the head does without a second copy of each text -/
theorem hdT.tw10727248033764811480 : True := trivial
theorem hdT.tw26425463804135960 : True := trivial
theorem hdT.tw11522431251485397643 : True := trivial
theorem hdT.tw11819858587614013073 : True := trivial
theorem hdT.tw14548315487290628186 : True := trivial
theorem hdT.tw5173749344868516864 : True := trivial
theorem hdT.tw11890078061363078750 : True := trivial
theorem hdT.tw221441178558041123 : True := trivial
theorem hdT.tw13355057091281484825 : True := trivial
theorem hdT.tw11411847428955675346 : True := trivial
theorem hdT.tw11477688691945414913 : True := trivial
theorem hdT.tw9468545859435271183 : True := trivial
theorem hdT.tw17412122536904038607 : True := trivial
theorem hdT.tw16553992645969093942 : True := trivial
theorem hdT.tw15603260837916072675 : True := trivial
theorem hdT.tw5500731756533578721 : True := trivial
theorem hdT.tw8476264869478353021 : True := trivial
theorem hdT.tw12131292251576101011 : True := trivial
theorem hdT.tw4313143885279240971 : True := trivial
theorem hdT.tw10397060821172629093 : True := trivial
theorem hdT.tw9649517630819889136 : True := trivial
theorem hdT.tw61845051005826073 : True := trivial
theorem hdT.tw3964891911489443954 : True := trivial
theorem hdT.tw4229817334402142320 : True := trivial
theorem hdT.tw4065701639349217400 : True := trivial
theorem hdT.tw12881549492787160771 : True := trivial
theorem hdT.tw7599984338395963968 : True := trivial
theorem hdT.tw367441821612502101 : True := trivial
theorem hdT.tw9706796430247959299 : True := trivial
theorem hdT.tw5605376954859161381 : True := trivial
theorem hdT.tw16350306363480061887 : True := trivial
theorem hdT.tw8945062058481590430 : True := trivial
theorem hdT.tw11297580890531973735 : True := trivial
theorem hdT.tw7222650671915615415 : True := trivial
theorem hdT.tw4115807349987654066 : True := trivial
theorem hdT.tw16891008726219124117 : True := trivial
theorem hdT.tw8265470260706955647 : True := trivial
theorem hdT.tw2524844556423622971 : True := trivial
theorem hdT.tw2064556462904595226 : True := trivial
theorem hdT.tw14091715451236904812 : True := trivial
theorem hdT.tw2733787043034080121 : True := trivial
theorem hdT.tw15155102815748656579 : True := trivial
theorem hdT.tw15795063272460424214 : True := trivial
theorem hdT.tw10091473335463396611 : True := trivial
theorem hdT.tw10847774610074322713 : True := trivial
theorem hdT.tw11025851999419997112 : True := trivial
theorem hdT.tw9774217921536092575 : True := trivial
theorem hdT.tw17124036884854810763 : True := trivial
theorem hdT.tw10512087442753340879 : True := trivial
theorem hdT.tw16293224430257661214 : True := trivial
theorem hdT.tw1941445587452892246 : True := trivial
theorem hdT.tw3875259969338479309 : True := trivial
theorem hdT.tw18112662375199258865 : True := trivial
theorem hdT.tw5703188038297658289 : True := trivial
theorem hdT.tw18157042029922121200 : True := trivial
theorem hdT.tw18353512786687606259 : True := trivial
theorem hdT.tw18162191258469497839 : True := trivial
theorem hdT.tw10022328738870164634 : True := trivial
theorem hdT.tw14111282437454515762 : True := trivial
theorem hdT.tw5058298282177499628 : True := trivial
theorem hdT.tw15362199594499169854 : True := trivial
theorem hdT.tw8655804101070074322 : True := trivial
theorem hdT.tw3393588189572467723 : True := trivial
theorem hdT.tw11329313707749312246 : True := trivial
theorem hdT.tw7829705894569581072 : True := trivial
theorem hdT.tw11069553336588684004 : True := trivial
theorem hdT.tw2590665687770687383 : True := trivial
theorem hdT.tw4175440764602730278 : True := trivial
theorem hdT.tw15833917995030374108 : True := trivial
theorem hdT.tw2040603085272400112 : True := trivial
theorem hdT.tw10912513977507066774 : True := trivial
theorem hdT.tw5566088155981672905 : True := trivial
theorem hdT.tw13836887222703822295 : True := trivial
theorem hdT.tw7006382467859086 : True := trivial
theorem hdT.tw43239288459458527 : True := trivial
theorem hdT.tw1409385383225070575 : True := trivial
theorem hdT.tw10237569569504698107 : True := trivial
theorem hdT.tw3323391921811158788 : True := trivial
theorem hdT.tw17330209464635656678 : True := trivial
theorem hdT.tw10135439223828713418 : True := trivial
theorem hdT.tw10982694853026876412 : True := trivial
theorem hdT.tw13909191751376067320 : True := trivial
theorem hdT.tw9953089775179544856 : True := trivial
theorem hdT.tw1922533514676636182 : True := trivial
theorem hdT.tw891118823176080642 : True := trivial
theorem hdT.tw14051742954146523877 : True := trivial
theorem hdT.tw2595491795643438744 : True := trivial
theorem hdT.tw3466781737653414217 : True := trivial
theorem hdT.tw12063483292250916407 : True := trivial
theorem hdT.tw6483410888447206391 : True := trivial
theorem hdT.tw5182582686313620687 : True := trivial
theorem hdT.tw4996970824774961645 : True := trivial
theorem hdT.tw13288877816346785473 : True := trivial
theorem hdT.tw8707643442570826027 : True := trivial
theorem hdT.tw9428456487869636955 : True := trivial
theorem hdT.tw12199021654675733443 : True := trivial
theorem hdT.tw145083640340050047 : True := trivial
theorem hdT.tw2889963598356752940 : True := trivial
theorem hdT.tw11810460373615012013 : True := trivial
theorem hdT.tw1995337205634837817 : True := trivial
theorem hdT.tw5382086097879252158 : True := trivial
theorem hdT.tw3636552047910511341 : True := trivial
theorem hdT.tw9025231825731301404 : True := trivial
theorem hdT.tw12464780345245008501 : True := trivial
theorem hdT.tw15809048253514858848 : True := trivial
theorem hdT.tw3143412894312235461 : True := trivial
theorem hdT.tw11715646533299277157 : True := trivial
theorem hdT.tw1707857740469282613 : True := trivial
theorem hdT.tw14723721584904273796 : True := trivial
theorem hdT.tw8559699639760095811 : True := trivial
theorem hdT.tw18118449795795475725 : True := trivial
theorem hdT.tw3515374156941646708 : True := trivial
theorem hdT.tw9283145667771314725 : True := trivial
theorem hdT.tw13600951392758744928 : True := trivial
theorem hdT.tw5834333856588137327 : True := trivial
theorem hdT.tw12452073396891409386 : True := trivial
theorem hdT.tw17868779511287947730 : True := trivial
theorem hdT.tw7389005267816414981 : True := trivial
theorem hdT.tw5093230611924697261 : True := trivial
theorem hdT.tw2785715272869547644 : True := trivial
theorem hdT.tw9123046930447025875 : True := trivial
theorem hdT.tw1060584485577719732 : True := trivial
theorem hdT.tw15372679633494169180 : True := trivial
theorem hdT.tw16999985606171333613 : True := trivial
theorem hdT.tw3532221321821438703 : True := trivial
theorem hdT.tw17399324747607712811 : True := trivial
theorem hdT.tw979307794853446009 : True := trivial
theorem hdT.tw4492976165840807181 : True := trivial
theorem hdT.tw11429512057831005621 : True := trivial
theorem hdT.tw16242365143784711797 : True := trivial
theorem hdT.tw17799736837412847826 : True := trivial
theorem hdT.tw15944553814587733143 : True := trivial
theorem hdT.tw17852332668852111413 : True := trivial
theorem hdT.tw9046982231190889870 : True := trivial
theorem hdT.tw17748469738329881022 : True := trivial
theorem hdT.tw8398713167058628909 : True := trivial
theorem hdT.tw9361115539744254847 : True := trivial
theorem hdT.tw5781692949465392829 : True := trivial
theorem hdT.tw504224835687565620 : True := trivial
theorem hdT.tw6655429191423261410 : True := trivial
theorem hdT.tw17975490810587418074 : True := trivial
theorem hdT.tw6516175111530716923 : True := trivial
theorem hdT.tw581636503205646701 : True := trivial
theorem hdT.tw14252318917806919141 : True := trivial
theorem hdT.tw16701990490430681445 : True := trivial
theorem hdT.tw4732779660799626476 : True := trivial
theorem hdT.tw4179470902613237342 : True := trivial
theorem hdT.tw10134597374278465607 : True := trivial
theorem hdT.tw3479959696663192842 : True := trivial
set_option Elab.async true in
set_option maxRecDepth 100000 in
set_option maxHeartbeats 8000000 in
theorem hdT [W : Walked] : PySem.Challenge.rw_tc0053_01.Holds := by
  w_on
  o_law
  o_head Hook.none
  case hw => w_witness2
  case hc => trivial
end MineH
end

section
open PySem PySem.W PySem.Calls PyProof.Rows
set_option Elab.async false
namespace Mine
local macro_rules | `(tactic| omega) => `(tactic| first | decide | lia)
theorem xor16 : ∀ r o : Fin 16, Builtin.bitXor ((r : Nat) : Int) ((o : Nat) : Int) = (((r : Nat) ^^^ (o : Nat) : Nat) : Int) ∧ (r : Nat) ^^^ (o : Nat) < 16 := by decide +kernel
noncomputable def takP (qs : List Int) (wish : Int) : Nat → List Nat
  | 0 => []
  | r + 1 => if (takP qs wish r).all (fun o => decide (¬ qs.getD (r ^^^ o) 0 < wish)) then takP qs wish r ++ [r] else takP qs wish r
theorem takP_lt (qs : List Int) (wish : Int) : ∀ r, ∀ o ∈ takP qs wish r, o < r
  | 0, o, h => by cases h
  | r + 1, o, h => by
    rw [takP] at h
    split at h
    · rcases List.mem_append.mp h with h | h
      · exact Nat.lt_succ_of_lt (takP_lt qs wish r o h)
      · rw [List.mem_singleton.mp h]; exact Nat.lt_succ_self _
    · exact Nat.lt_succ_of_lt (takP_lt qs wish r o h)
theorem takP_len (qs : List Int) (wish : Int) : ∀ r, (takP qs wish r).length ≤ r
  | 0 => Nat.le_refl _
  | r + 1 => by
    have := takP_len qs wish r
    rw [takP]
    split
    · rw [List.length_append, List.length_singleton]; omega
    · omega
abbrev nInts (l : List Nat) : List Int := l.map fun (o : Nat) => (o : Int)
theorem nInts_get {l : List Nat} {i : Nat} {n : Int} (h : (nInts l)[i]? = some n) : ∃ o, l[i]? = some o ∧ n = (o : Int) ∧ o ∈ l := by
  rw [List.getElem?_map] at h
  cases e : l[i]? with
  | none => rw [e] at h; cases h
  | some o => rw [e] at h; exact ⟨o, rfl, (Option.some.inj h).symm, List.mem_of_getElem? e⟩
theorem mi_lt {a b w : Int} (h : mi a w = mi b w) : a < w ↔ b < w := by
  unfold mi at h
  split at h <;> split at h <;> omega
theorem all_no {l : List Nat} {p : Nat → Bool} {o : Nat} (ho : o ∈ l) (hp : p o = false) : false = l.all p := by
  refine Eq.symm ?_
  rw [List.all_eq_false]
  exact ⟨o, ho, by rw [hp]; exact Bool.false_ne_true⟩
theorem all_yes {l : List Nat} {p : Nat → Bool} (h : ∀ k, k < l.length → ∀ o, l[k]? = some o → p o = true) : true = l.all p := by
  refine Eq.symm ?_
  rw [List.all_eq_true]
  intro o ho
  obtain ⟨k, hk, e⟩ := List.mem_iff_getElem.mp ho
  exact h k hk o (by rw [List.getElem?_eq_getElem hk, e])
theorem nInts_len (l : List Nat) : (nInts l).length = l.length := List.length_map ..
end Mine
end

section
open PySem PySem.W PySem.Calls PyProof.Rows
set_option Elab.async false
namespace Mine
local macro_rules | `(tactic| omega) => `(tactic| first | decide | lia)
noncomputable def mexF : Nat → List Int → Int → Int
  | 0, _, v => v
  | n + 1, f, v => if f.any (· == v) then mexF n f (v + 1) else v
noncomputable def cntG (f : List Int) (v : Int) : Nat := (f.filter fun x => decide (v ≤ x)).length
theorem cntG_le (f : List Int) (v : Int) : cntG f (v + 1) ≤ cntG f v := by
  induction f with
  | nil => exact Nat.le_refl _
  | cons a r ih =>
    unfold cntG at ih ⊢
    by_cases h1 : v + 1 ≤ a
    · have h2 : v ≤ a := by omega
      simp [h1, h2]; exact ih
    · by_cases h2 : v ≤ a
      · simp [h1, h2]; omega
      · simp [h1, h2]; exact ih
theorem cntG_lt {f : List Int} {v : Int} (h : f.any (· == v) = true) : cntG f (v + 1) < cntG f v := by
  induction f with
  | nil => cases h
  | cons a r ih =>
    rw [List.any_cons, Bool.or_eq_true] at h
    rcases h with h | h
    · have e : a = v := by simpa using h
      have q := cntG_le r v
      unfold cntG at q ⊢
      have h1 : ¬ v + 1 ≤ a := by omega
      have h2 : v ≤ a := by omega
      simp [h1, h2]; omega
    · have q := ih h
      unfold cntG at q ⊢
      by_cases h1 : v + 1 ≤ a
      · have h2 : v ≤ a := by omega
        simp [h1, h2]; exact q
      · by_cases h2 : v ≤ a
        · simp [h1, h2]; omega
        · simp [h1, h2]; exact q
theorem cntG_len (f : List Int) (v : Int) : cntG f v ≤ f.length := List.length_filter_le _ _
theorem mexF_stop {f : List Int} {v : Int} (h : f.any (· == v) = false) : ∀ n, mexF n f v = v
  | 0 => rfl
  | n + 1 => by rw [mexF, h]; rfl
theorem mexF_step {f : List Int} {v T : Int} (h : f.any (· == v) = true) (hn : ∃ n, cntG f v ≤ n ∧ mexF n f v = T) : ∃ n, cntG f (v + 1) ≤ n ∧ mexF n f (v + 1) = T := by
  obtain ⟨n, h1, h2⟩ := hn
  have q := cntG_lt h
  cases n with
  | zero => omega
  | succ n =>
    rw [mexF, if_pos h] at h2
    exact ⟨n, by omega, h2⟩
theorem mexF_end {f : List Int} {v T : Int} (h : f.any (· == v) = false) (hn : ∃ n, cntG f v ≤ n ∧ mexF n f v = T) : T = v := by
  obtain ⟨n, _, h2⟩ := hn
  rw [← h2, mexF_stop h]
noncomputable def foundS (qs : List Int) (wish : Int) (sums : List Int) (k : Nat) : Nat → List Int
  | 0 => []
  | r + 1 => if qs.getD (r + 2 ^ k) 0 < wish then foundS qs wish sums k r ++ [sums.getD r 0] else foundS qs wish sums k r
theorem foundS_len (qs : List Int) (wish : Int) (sums : List Int) (k : Nat) : ∀ r, (foundS qs wish sums k r).length ≤ r
  | 0 => Nat.le_refl _
  | r + 1 => by
    have := foundS_len qs wish sums k r
    rw [foundS]
    split
    · rw [List.length_append, List.length_singleton]; omega
    · omega
noncomputable def sumsS (qs : List Int) (wish : Int) : Nat → List Int
  | 0 => [0]
  | k + 1 => sumsS qs wish k ++ (sumsS qs wish k).map fun t => Builtin.bitXor (mexF 16 (foundS qs wish (sumsS qs wish k) k (2 ^ k)) 0) t
theorem sumsS_len (qs : List Int) (wish : Int) : ∀ k, (sumsS qs wish k).length = 2 ^ k
  | 0 => rfl
  | k + 1 => by
    rw [sumsS, List.length_append, List.length_map, sumsS_len qs wish k, Nat.pow_succ]
    omega
theorem pow4 : ∀ k : Fin 4, 1 ≤ 2 ^ (k : Nat) ∧ 2 ^ (k : Nat) ≤ 8 ∧ (2 : Int) ^ (k : Nat) = ((2 ^ (k : Nat) : Nat) : Int) := by decide
end Mine
end

section
open PySem PySem.W PySem.Calls PyProof.Rows
set_option Elab.async false
namespace Mine
local macro_rules | `(tactic| omega) => `(tactic| first | decide | lia)

noncomputable def LpExT {σ : Type} (h₀ : Heap) (L : Addr) (s : Shared) (Led : σ → List (Addr × Obj)) (own : List (Addr × Obj)) (ps : σ → List (Str × Value)) (stored : List Str) (m₀ : Str → Option Value) (X : σ → Nat → Prop) (s₂ : Shared) : Prop :=
  ∃ (c : σ) (h : Heap) (tk : Nat) (m' : Str → Option Value), s₂ = { s with heap := h, toks := tk } ∧ Fr h₀ L h m' ∧ News h₀ L h (Led c ++ own) ∧ (∀ p ∈ ps c, m' p.1 = some p.2) ∧ (∀ z, (∀ p ∈ ps c, z ≠ p.1) → stored.contains z = false → m' z = m₀ z) ∧ X c tk
noncomputable def LpPostT {σ : Type} (h₀ : Heap) (L : Addr) (s : Shared) (Led : σ → List (Addr × Obj)) (own : List (Addr × Obj)) (ps : σ → List (Str × Value)) (stored : List Str) (m₀ : Str → Option Value) (X : σ → Nat → Prop) (Q : Flow → Shared → Prop) (f : Flow) (s₂ : Shared) : Prop :=
  match f with
  | .ret v => Q (.ret v) s₂
  | .brk => Q .next s₂
  | _ => LpExT h₀ L s Led own ps stored m₀ X s₂

section
variable {prog : Program} {w : World} {A : Around} {E : Value → Shared → Prop} {Q : Flow → Shared → Prop} {s : Shared} {env : Env} {h₀ : Heap} {L : Addr} {σ : Type} {m₀ : Str → Option Value}
  {Led : σ → List (Addr × Obj)} {own : List (Addr × Obj)} {ps : σ → List (Str × Value)} {stored : List Str}

theorem lpExT {X : σ → Nat → Prop} (c : σ) {m' : Str → Option Value} {h : Heap} {tk : Nat} {news' : List (Addr × Obj)}
    (F : Fr h₀ L h m') (N : News h₀ L h news') (hs : ∀ p ∈ Led c ++ own, p ∈ news') (hk : ∀ p ∈ ps c, m' p.1 = some p.2)
    (hr : ∀ z, (∀ p ∈ ps c, z ≠ p.1) → stored.contains z = false → m' z = m₀ z) (x : X c tk) :
    LpExT h₀ L s Led own ps stored m₀ X { s with heap := h, toks := tk } := ⟨c, h, tk, m', rfl, F, fun p hp => N p (hs p hp), hk, hr, x⟩
theorem lpPostT_next {X : σ → Nat → Prop} {s₂ : Shared} (h : LpExT h₀ L s Led own ps stored m₀ X s₂) : LpPostT h₀ L s Led own ps stored m₀ X Q .next s₂ := h
theorem lpPostT_cont {X : σ → Nat → Prop} {s₂ : Shared} (h : LpExT h₀ L s Led own ps stored m₀ X s₂) : LpPostT h₀ L s Led own ps stored m₀ X Q .cont s₂ := h

/-- while, the turns knowing that the tokens have grown since the start -/
theorem lp_whileT {test : PySem.Expr} {body : List Stmt} {pos : Pos} (Led : σ → List (Addr × Obj)) (ps : σ → List (Str × Value)) (stored : List Str) (P : σ → Prop) (μ : σ → Nat) (c₀ : σ)
    (F : Fr h₀ L s.heap m₀) (N : News h₀ L s.heap (Led c₀)) (hk : ∀ p ∈ ps c₀, m₀ p.1 = some p.2) (hp : P c₀)
    (hE : PassesOwn (model prog w) A env E)
    (turn : ∀ (c : σ) (u : Str → Option Value) h tk, s.toks ≤ tk → P c → Fr h₀ L h (kstB (fun z => if stored.contains z then u z else m₀ z) (ps c)) → News h₀ L h (Led c) →
      wpAny (model prog w) A (isTrue test env (eval test env)) (fun b s₂ =>
        if b = true then wpAny (model prog w) A (execs body env) (LpPost h₀ L s Led [] ps stored m₀ (fun c' => P c' ∧ μ c' < μ c) Q) E s₂ else Q .next s₂) E { s with heap := h, toks := tk }) :
    wpAny (model prog w) A (exec (.While test body [] pos) env) Q E s := by
  refine wpAny_While (codeAny_whileLoop (fun n s' => ∃ (c : σ) (h : Heap) (tk : Nat) (m' : Str → Option Value), n = μ c ∧ s' = { s with heap := h, toks := tk } ∧ s.toks ≤ tk ∧ Fr h₀ L h m' ∧ News h₀ L h (Led c) ∧ (∀ p ∈ ps c, m' p.1 = some p.2) ∧
      (∀ z, (∀ p ∈ ps c, z ≠ p.1) → stored.contains z = false → m' z = m₀ z) ∧ P c) ?_ (μ c₀) ⟨c₀, s.heap, s.toks, m₀, rfl, rfl, Nat.le_refl _, F, N, hk, fun _ _ _ => rfl, hp⟩)
  rintro n s' ⟨c, h, tk, m', rfl, rfl, hle, F', N', hk', hr', hP⟩
  refine wpAny_mono (wpAny_toks (turn c m' h tk hle hP (ksw_fr hk' hr' F') N')) (fun b s₂ q => ?_) (fun _ _ e => hE _ _ e.1)
  obtain ⟨q, le2⟩ := q
  cases b with
  | false =>
    simp only [Bool.false_eq_true, if_false] at q ⊢
    exact wpAny_execs_nil q
  | true =>
    simp only [if_true] at q ⊢
    refine wpAny_mono (wpAny_toks q) (fun f s₃ q => ?_) (fun _ _ e => hE _ _ e.1)
    obtain ⟨q, le3⟩ := q
    have up : LpEx h₀ L s Led [] ps stored m₀ (fun c' => P c' ∧ μ c' < μ c) s₃ → ∃ n', n' < μ c ∧ ∃ (c : σ) (h : Heap) (tk : Nat) (m' : Str → Option Value), n' = μ c ∧ s₃ = { s with heap := h, toks := tk } ∧ s.toks ≤ tk ∧ Fr h₀ L h m' ∧ News h₀ L h (Led c) ∧ (∀ p ∈ ps c, m' p.1 = some p.2) ∧
      (∀ z, (∀ p ∈ ps c, z ≠ p.1) → stored.contains z = false → m' z = m₀ z) ∧ P c := by
      rintro ⟨c', h', tk', m₂, rfl, F2, N2, hk2, hr2, x, y⟩
      rw [List.append_nil] at N2
      exact ⟨μ c', y, c', h', tk', m₂, rfl, rfl, Nat.le_trans (Nat.le_trans hle le2) le3, F2, N2, hk2, hr2, x⟩
    cases f with
    | ret v => exact q
    | brk => exact q
    | next => exact up q
    | cont => exact up q

noncomputable def TextAt {σ : Type} (prog : Program) (w : World) (A : Around) (h₀ : Heap) (env : Env) (x : Str) (px : Pos) (body : List Stmt) (Led : σ → List (Addr × Obj)) (ps : σ → List (Str × Value)) (stored : List Str) (m₀ : Str → Option Value) (P : Nat → σ → Nat → Prop) (Q : Flow → Shared → Prop) (E : Value → Shared → Prop) (xv : Value) (s₁ : Shared) : Prop :=
  ∃ (xt : Str) (tx : Tok) (c₀ : σ), xv = .str xt tx ∧ A.handled = none ∧ Fr h₀ env.locals s₁.heap m₀ ∧ News h₀ env.locals s₁.heap (Led c₀) ∧ (∀ p ∈ ps c₀, m₀ p.1 = some p.2) ∧ P 0 c₀ s₁.toks ∧
      (∀ (i : Nat) (c : σ) (n : Nat) (t : Tok) (u : Str → Option Value) (h : Heap) (tk : Nat) (own : List (Addr × Obj)), xt.cps[i]? = some n → P i c tk → OwnOff own ((Led c₀).map (·.1)) → Fr h₀ env.locals h (kstB (fun z => if stored.contains z then u z else m₀ z) (ps c)) → News h₀ env.locals h (Led c ++ own) →
        wpAny (model prog w) A (assign (.Name x px) env (.str ⟨#[n]⟩ t)) (fun _ s₃ => wpAny (model prog w) A (execs body env) (LpPostT h₀ env.locals s₁ Led own ps stored m₀ (P (i + 1)) Q) E s₃) E { s₁ with heap := h, toks := tk }) ∧
      (∀ (c : σ) (u : Str → Option Value) (h : Heap) (tk : Nat), P xt.cps.size c tk → Fr h₀ env.locals h (kstB (fun z => if stored.contains z then u z else m₀ z) (ps c)) → News h₀ env.locals h (Led c) → Q .next { s₁ with heap := h, toks := tk })

/-- for over the signs of a text, with what the turns know of the tokens -/
theorem for_textT {x : Str} {px pos : Pos} {iter : PySem.Expr} {body : List Stmt} (Led : σ → List (Addr × Obj)) (ps : σ → List (Str × Value)) (stored : List Str) (P : Nat → σ → Nat → Prop) (_F : Fr h₀ env.locals s.heap m₀)
    (hmono : ∀ i c a b, a ≤ b → P i c a → P i c b) (hadr : ∀ c c' : σ, (Led c).map (·.1) = (Led c').map (·.1))
    (h : wpAny (model prog w) A (eval iter env) (fun xv s₁ => TextAt prog w A h₀ env x px body Led ps stored m₀ P Q E xv s₁) E s)
    (hE : PassesOwn (model prog w) A env E)
    (hs : ∀ x, foldedSetIterable iter env x = pure x) :
    wpAny (model prog w) A (exec (.For (.Name x px) iter body [] pos) env) Q E s := by
  refine wpAny_For (wpAny_mono h (fun xv s₁ q₁ => ?_) fun _ _ e => e) hs
  obtain ⟨xt, tx, c₀, rfl, hh, F, N, hk, hp, turn, done⟩ := q₁
  refine wpAny_pyIter_str fun o St hW hst => ?_
  have W := hW A hh
  generalize hI : s₁.heap.objs.size = I at W hst
  have hIL : env.locals ≠ I := fun e => absurd F.ns.lt (e ▸ hI ▸ Nat.lt_irrefl _)
  have hI₀ : h₀.get? I = none := hI ▸ next_is_new F
  have hIn : ∀ c, ∀ p ∈ Led c, p.1 ≠ I := by
    intro c p hp hq
    have : p.1 ∈ (Led c₀).map (·.1) := hadr c c₀ ▸ List.mem_map_of_mem hp
    obtain ⟨p', hp', e⟩ := List.mem_map.mp this
    have := Heap.lt_size (N p' hp').1
    rw [e, hq, hI] at this
    exact absurd this (Nat.lt_irrefl _)
  have up : ∀ b o', s₁.heap.get? b = some o' → (s₁.heap.push o).get? b = some o' := fun b o' e => Heap.get?_push_of_some _ e
  refine codeAny_forLoop_any (fun k s' => ∃ (i : Nat) (c : σ) (g : Heap) (tk : Nat) (m' : Str → Option Value), k + i = xt.cps.size ∧ s' = { s₁ with heap := g, toks := tk } ∧ St i g ∧ Fr h₀ env.locals g m' ∧ News h₀ env.locals g (Led c) ∧ (∀ p ∈ ps c, m' p.1 = some p.2) ∧
      (∀ z, (∀ p ∈ ps c, z ≠ p.1) → stored.contains z = false → m' z = m₀ z) ∧ P i c tk) ?_ xt.cps.size
    ⟨0, c₀, s₁.heap.push o, s₁.toks, m₀, rfl, rfl, hst, F.keeps up, N.grown up, hk, fun _ _ _ => rfl, hp⟩
  rintro k s' ⟨i, c, g, tk, m', hki, rfl, hSt, hF, hN, hk', hr', hP⟩
  have keepF : ∀ g' : Heap, (∀ b o, b ∉ [I] → g.get? b = some o → g'.get? b = some o) → Fr h₀ env.locals g' m' := fun g' hg => LCg.fr_but hF hg hIL hI₀
  have keepN : ∀ g' : Heap, (∀ b o, b ∉ [I] → g.get? b = some o → g'.get? b = some o) → News h₀ env.locals g' (Led c) := fun g' hg => LCg.news_but hN hg (hIn c)
  cases k with
  | zero =>
    have hi : i = xt.cps.size := by omega
    subst hi
    refine wpAny_mono (wpAny_toks (W.done _ (fun r s₂ => r = none ∧ ∃ g₁ tk₁, s₂ = { s₁ with heap := g₁, toks := tk₁ } ∧ ∀ b o, b ∉ [I] → g.get? b = some o → g₁.get? b = some o) _ hSt (fun g₁ tk₁ hg₁ => ⟨rfl, g₁, tk₁, rfl, hg₁⟩))) (fun r s₂ q => ?_) (fun _ _ e => e.1)
    obtain ⟨⟨rfl, g₁, tk₁, rfl, hg₁⟩, le⟩ := q
    exact wpAny_execs_nil (done c m' g₁ tk₁ (hmono _ _ _ _ le hP) (ksw_fr hk' hr' (keepF g₁ hg₁)) (keepN g₁ hg₁))
  | succ k =>
    refine wpAny_mono (wpAny_toks (W.item i _ (fun r s₂ => ∃ v g₁ tk₁, r = some v ∧ SignAt xt i v ∧ s₂ = { s₁ with heap := g₁, toks := tk₁ } ∧ St (i + 1) g₁ ∧ ∀ b o, b ∉ [I] → g.get? b = some o → g₁.get? b = some o) _ (by omega) hSt (fun v g₁ tk₁ hv hSt₁ hg₁ => ⟨v, g₁, tk₁, rfl, hv, rfl, hSt₁, hg₁⟩))) (fun r s₂ q => ?_) (fun _ _ e => e.1)
    obtain ⟨⟨v, g₁, tk₁, rfl, ⟨n, t, hn, rfl⟩, rfl, hSt₁, hg₁⟩, le⟩ := q
    refine wpAny_mono (wpAny_pure (M := model prog w) (A := A) (a := ()) (Q := fun _ s' => s' = { s₁ with heap := g₁, toks := tk₁ }) (E := fun _ _ => False) rfl : wpAny (model prog w) A (letOwnedTupleGo (.Name x px) (.ref I) (.str ⟨#[n]⟩ t)) _ _ _) (fun _ s₂ e => ?_) (fun _ _ e => e.elim)
    subst e
    have F₁ := keepF g₁ hg₁
    have Nown : News h₀ env.locals g₁ (ownOf h₀ [I] g₁) := news_ownOf (fun hm => hIL (List.mem_singleton.mp hm))
    have hoff : OwnOff (ownOf h₀ [I] g₁) ((Led c₀).map (·.1)) := by
      intro p hp b hb
      rw [List.mem_singleton.mp (ownOf_sub p hp)]
      obtain ⟨p', hp', rfl⟩ := List.mem_map.mp hb
      exact Ne.symm (hIn c₀ p' hp')
    have N₁ : News h₀ env.locals g₁ (Led c ++ ownOf h₀ [I] g₁) := (keepN g₁ hg₁).append Nown
    refine wpAny_passesOwn hE (wpAny_mono (wpAny_toks (turn i c n t m' g₁ tk₁ _ hn (hmono _ _ _ _ le hP) hoff (ksw_fr hk' hr' F₁) N₁)) (fun _ s₃ q => ?_) fun _ _ e => e.1)
    obtain ⟨q, le3⟩ := q
    refine wpAny_passesOwn hE (wpAny_mono (wpAny_toks q) (fun f s₄ q => ?_) fun _ _ e => e.1)
    obtain ⟨q, le4⟩ := q
    have up : LpExT h₀ env.locals s₁ Led (ownOf h₀ [I] g₁) ps stored m₀ (P (i + 1)) s₄ → ∃ k', k' < k + 1 ∧ ∃ (i : Nat) (c : σ) (g : Heap) (tk : Nat) (m' : Str → Option Value), k' + i = xt.cps.size ∧ s₄ = { s₁ with heap := g, toks := tk } ∧ St i g ∧ Fr h₀ env.locals g m' ∧ News h₀ env.locals g (Led c) ∧ (∀ p ∈ ps c, m' p.1 = some p.2) ∧
      (∀ z, (∀ p ∈ ps c, z ≠ p.1) → stored.contains z = false → m' z = m₀ z) ∧ P i c tk := by
      rintro ⟨c', h', tk', m₂, rfl, F2, N2, hk2, hr2, x'⟩
      refine ⟨k, Nat.lt_succ_self _, i + 1, c', h', tk', m₂, by omega, rfl, W.frame _ _ _ hSt₁ fun b hb o e => ?_, F2, fun p hp => N2 p (List.mem_append_left _ hp), hk2, hr2, x'⟩
      have hb' := List.mem_singleton.mp hb
      exact (N2 _ (List.mem_append_right _ (mem_ownOf hb (hb' ▸ hI₀) e))).1
    cases f with
    | ret v => exact q
    | brk => exact q
    | next => exact up q
    | cont => exact up q
end
end Mine
end

section
open PySem PySem.W PySem.Calls PyProof.Rows
set_option Elab.async false
namespace Mine
local macro_rules | `(tactic| omega) => `(tactic| first | decide | lia)

section
variable {prog : Program} {w : World} {A : Around} {E : Value → Shared → Prop} {s : Shared} {env : Env} {h₀ : Heap} {m : Str → Option Value}

/-- what a list comprehension over a list of ints asks, the turns knowing that the tokens have grown -/
noncomputable def CompAt (prog : Program) (w : World) (A : Around) (h₀ : Heap) (m : Str → Option Value) (env : Env) (elt : PySem.Expr) (x y : Str) (scope : Scope) (cl : List (Str × Addr)) (g : Int → Int) (Q : Flow → Shared → Prop) (xv : Value) (s₁ : Shared) : Prop :=
  ∃ (ax : Addr) (vs : List Value) (ns : List Int) (nn : Nat) (news : List (Addr × Obj)), xv = .ref ax ∧ A.handled = none ∧ Fr h₀ env.locals s₁.heap m ∧ News h₀ env.locals s₁.heap news ∧ (ax, listOf vs.toArray nn) ∈ news ∧ IntsAre vs ns ∧ vs.length ≤ sizeLine ∧
    (∀ (k : Int) (t : Tok) (I : Addr) (oI : Obj) (C : Addr) (oC : Obj) (D : Addr) (m₂ : Str → Option Value) (ys : List Value) (h : Heap) (tk : Nat) (E' : Value → Shared → Prop), s₁.toks ≤ tk → k ∈ ns → LCg.NsObj oC m₂ → m₂ x = some (.int k t) → Fr h₀ env.locals h m →
      News h₀ env.locals h ((I, oI) :: (C, oC) :: (D, LCg.lst ys) :: news) → LCg.Off3 I C D news → ((@Ne Nat I C) ∧ (@Ne Nat I D) ∧ (@Ne Nat C D)) →
      wpAny (model prog w) A (eval elt (compEnvC scope cl C env)) (LCg.CompEnd h₀ env.locals m { s₁ with heap := h, toks := tk } I oI C oC D (LCg.lst ys) (fun _ => True) (fun y news' => KCfEl news (g k) y news')) E' { s₁ with heap := h, toks := tk }) ∧
    (∀ (D : Addr) (ys : List Value) (h : Heap) (tk : Nat), IntsAre ys (ns.map g) → Fr h₀ env.locals h (fun z => if z = y then some (.ref D) else m z) → News h₀ env.locals h ((D, LCg.lst ys) :: news) → (∀ p ∈ news, p.1 ≠ D) → Q .next { s₁ with heap := h, toks := tk })

theorem assign_compT {elt iter : PySem.Expr} {x y : Str} {px py : Pos} {scope : Scope} {cl : List (Str × Addr)} {pos spos : Pos} {Q : Flow → Shared → Prop} (g : Int → Int) (_F₀ : Fr h₀ env.locals s.heap m)
    (hsw : swapsWith (.ListComp elt [⟨.Name x px, iter, [], 0⟩] scope pos) (some (.Name y py)) spos.line env = pure true)
    (hclos : closureFor scope env = pure cl) (hcell : ∀ z ∈ scope.names, z.2 ≠ .cell) (hkind : scope.kind = .function)
    (hnames : ∀ z ∈ scope.names, z.2 = .local → scope.names.lookup z.1 = some .local) (hx : scope.names.lookup x = some .local)
    (hy : env.kindOf y = some .local) (hp : (env.scope.kind == .class || (env.scope.kind == .module && env.locals != env.globals)) = false)
    (hs : ∀ x, foldedSetIterable iter env x = pure x)
    (h : wpAny (model prog w) A (eval iter env) (CompAt prog w A h₀ m env elt x y scope cl g Q) E s) :
    wpAny (model prog w) A (exec (.Assign [.Name y py] (.ListComp elt [⟨.Name x px, iter, [], 0⟩] scope pos) spos) env) Q E s := by
  rw [exec_Assign_Name_used _ _ _ _ hsw]
  refine wpAny_bind (wpAny_standAt (wpAny_bind ?_))
  show wpAny _ A (do let _ ← comprehension (.ListComp elt [⟨.Name x px, iter, [], 0⟩] scope pos) scope env _ (newList []) false (eval iter env) (some (assign (.Name y py) env))) _ _ s
  refine wpAny_bind (wpAny_mono (wpAny_comprehension_free (use := some (assign (.Name y py) env)) (Q := fun _ s' => Q .next s') rfl hs hclos hkind hnames
    (wpAny_mono h (fun xv s₁ h₁ => ?_) fun _ _ e => e)) (fun _ s' hq => wpAny_pure (wpAny_pure hq)) fun _ _ e => e)
  obtain ⟨ax, vs, ns, nn, news, rfl, hh, F, N, hm, hi, hsz, turn, fin⟩ := h₁
  have hl : s₁.heap.IsList ax vs.toArray := ⟨_, (N _ hm).1, rfl, _, rfl⟩
  refine wpAny_pyIter_list hl ?_
  obtain ⟨tk₀, htk₀⟩ : ∃ tk, tk = s₁.toks := ⟨_, rfl⟩
  have hlt : ∀ b o, s₁.heap.get? b = some o → b < s₁.heap.objs.size := fun b o e => Heap.lt_size e
  have W := Walks.list (prog := prog) (w := w) hh s₁.heap.objs.size ax (Nat.ne_of_lt (hlt _ _ (N _ hm).1)) vs.toArray
  -- the heap with the list's walker
  obtain ⟨H1, hH1⟩ : ∃ H, H = s₁.heap.push { cls := .type "list_iterator", data := .fields #[.ref ax, .int 0 0] } := ⟨_, rfl⟩
  have up1 : ∀ b o, s₁.heap.get? b = some o → H1.get? b = some o := fun b o e => hH1 ▸ Heap.get?_push_of_some _ e
  have z1 : H1.objs.size = s₁.heap.objs.size + 1 := by rw [hH1, Heap.size_push]
  have st0 : H1.IsListIter s₁.heap.objs.size ax 0 ∧ H1.IsList ax vs.toArray := by
    subst hH1
    exact ⟨⟨_, Heap.get?_push_size _ rfl, rfl, rfl⟩, hl.push _⟩
  rw [← hH1]
  have hI₀ : h₀.get? s₁.heap.objs.size = none := next_is_new F
  have hIL : env.locals ≠ s₁.heap.objs.size := Nat.ne_of_lt F.ns.lt
  have offI : ∀ p ∈ news, p.1 ≠ s₁.heap.objs.size := fun p hp => Nat.ne_of_lt (hlt _ _ (N p hp).1)
  generalize s₁.heap.objs.size = I at W st0 z1 hI₀ hIL offI
  have F1 : Fr h₀ env.locals H1 m := F.keeps up1
  have N1 : News h₀ env.locals H1 news := N.grown up1
  have IltH : I < H1.objs.size := by rw [z1]; exact Nat.lt_succ_self _
  have hax1 : ax ≠ I := offI _ hm
  clear hH1 up1
  refine wpAny_newObj_type (wpAny_newFunctionEnv hcell (by intro y hy; simp at hy) (fun h₁ hns₁ hsb₁ => ?_) hkind)
  dsimp only at hns₁ hsb₁ ⊢
  have zD : (H1.push { cls := .type "list", data := .seq #[] }).objs.size = H1.objs.size + 1 := by rw [Heap.size_push]
  have oldH : ∀ b o, H1.get? b = some o → h₁.get? b = some o := fun b o e =>
    hsb₁.extBut b o (fun q => by have := Heap.lt_size e; rw [q, zD] at this; exact Nat.lt_irrefl _ (Nat.lt_of_succ_lt this)) (Heap.get?_push_of_some _ (Heap.get?_push_of_some _ e))
  have accD : h₁.get? H1.objs.size = some (LCg.lst []) :=
    hsb₁.extBut _ _ (by rw [zD]; exact Nat.ne_of_lt (Nat.lt_succ_self _)) (Heap.get?_push_of_some _ (Heap.get?_push_size _ rfl))
  generalize hC : (H1.push { cls := .type "list", data := .seq #[] }).objs.size = C at hns₁ hsb₁ ⊢
  have hCD : C = H1.objs.size + 1 := hC.symm.trans zD
  have hD₀ : h₀.get? H1.objs.size = none := next_is_new F1
  have hC₀ : h₀.get? C = none := by
    cases e : h₀.get? C with
    | none => rfl
    | some o => have := Heap.lt_size (F1.keep C o e); rw [hCD] at this; exact absurd this (Nat.not_lt.mpr (Nat.le_succ _))
  have hLD : env.locals < H1.objs.size := F1.ns.lt
  have offD : ∀ p ∈ news, p.1 < H1.objs.size := fun p hp => Heap.lt_size (N1 p hp).1
  generalize H1.objs.size = D at IltH accD hCD hD₀ hLD offD zD ⊢
  have nDI : I ≠ D := Nat.ne_of_lt IltH
  have nCI : I ≠ C := by rw [hCD]; exact Nat.ne_of_lt (Nat.lt_succ_of_lt IltH)
  have nCD : D ≠ C := by rw [hCD]; exact Nat.ne_of_lt (Nat.lt_succ_self _)
  have nDL : D ≠ env.locals := Ne.symm (Nat.ne_of_lt hLD)
  have nCL : C ≠ env.locals := by rw [hCD]; exact Ne.symm (Nat.ne_of_lt (Nat.lt_succ_of_lt hLD))
  have off3 : LCg.Off3 I C D news := LCg.Off3.of fun p hp => ⟨offI p hp, by rw [hCD]; exact Nat.ne_of_lt (Nat.lt_succ_of_lt (offD p hp)), Nat.ne_of_lt (offD p hp)⟩
  have off := off3.mem
  have st1 := W.frame _ _ _ st0 fun b _ o e => oldH b o e
  have F2 : Fr h₀ env.locals h₁ m := F1.keeps oldH
  have N2 : News h₀ env.locals h₁ news := fun p hp => ⟨oldH _ _ (N1 p hp).1, (N1 p hp).2⟩
  clear hsb₁ hC zD z1 oldH st0 F1 N1
  have loop : ∀ (s₃ : Shared) R, (∃ tk, s₁.toks ≤ tk ∧ s₃ = { s₁ with heap := h₁, toks := tk }) →
      (∀ (ys : List Value) (h : Heap) (tk : Nat) (m' : Str → Option Value), IntsAre ys (ns.map g) → Fr h₀ env.locals h m → News h₀ env.locals h ((D, LCg.lst ys) :: news) → h.Ns C m' → R (.ok .next) { s₁ with heap := h, toks := tk }) →
      codeAny (model prog w) A (.compLoop (.ListComp elt [⟨.Name x px, iter, [], 0⟩] scope pos) 0 (.ref I) (.ref D) (compEnvC scope cl C env)) R s₃ := by
    rintro s₃ R ⟨tk₁, hle₁, rfl⟩ hR
    refine codeAny_compLoop_tests
      (fun k s' => ∃ (i : Nat) (h' : Heap) (tk : Nat) (ys : List Value) (m' : Str → Option Value), k + i = ns.length ∧ s' = { s₁ with heap := h', toks := tk } ∧ s₁.toks ≤ tk ∧ IntsAre ys ((ns.take i).map g) ∧ (h'.IsListIter I ax i ∧ h'.IsList ax vs.toArray) ∧ Fr h₀ env.locals h' m ∧ h'.Ns C m' ∧ News h₀ env.locals h' ((D, LCg.lst ys) :: news)) ?_ ns.length
      ⟨0, h₁, tk₁, [], _, rfl, rfl, hle₁, .nil, st1, F2, hns₁, fun p hp => ?_⟩
    · rintro k s' ⟨i, h', tk, ys, m', hk, rfl, hle, hys, hst, F', hn', N'⟩
      have hvl : vs.toArray.size = ns.length := by rw [List.size_toArray]; exact hi.length
      cases k with
      | zero =>
        have hin : i = ns.length := by omega
        subst hin
        rw [List.take_length] at hys
        refine W.done _ _ _ (hvl ▸ hst) fun h₂ tk₂ hk₂ => ?_
        exact hR ys h₂ tk₂ m' hys (LCg.fr_but F' hk₂ hIL hI₀) (LCg.news_but N' hk₂ fun p hp => by
          rcases List.mem_cons.mp hp with rfl | hp
          · exact Ne.symm nDI
          · exact offI p hp) (hn'.at' fun o e => hk₂ _ o (by simpa using Ne.symm nCI) e)
      | succ k =>
        have hlt : i < vs.toArray.size := by omega
        refine wpAny_mono (wpAny_toks (W.item i _ (fun r s₂ => ∃ v g₁ tk₁, r = some v ∧ vs.toArray[i]? = some v ∧ s₂ = { s₁ with heap := g₁, toks := tk₁ } ∧ (g₁.IsListIter I ax (i + 1) ∧ g₁.IsList ax vs.toArray) ∧ ∀ b o, b ∉ [I] → h'.get? b = some o → g₁.get? b = some o) _ hlt hst (fun v g₁ tk₁ hv hSt₁ hg₁ => ⟨v, g₁, tk₁, rfl, hv, rfl, hSt₁, hg₁⟩))) (fun r s₂ q => ?_) (fun _ _ e => e.1)
        obtain ⟨⟨v, h₂, tk₂, rfl, hv, rfl, st₂, hk₂⟩, le₂⟩ := q
        obtain ⟨kk, t, rfl, hkk⟩ := IntsAre.at hi i v (by simpa using hv)
        have le₂' : s₁.toks ≤ tk₂ := Nat.le_trans hle le₂
        refine wpAny_assign_Name (wpAny_storeName_local (lookup_relabel_local hx) (hn'.at' fun o e => hk₂ _ o (by simpa using Ne.symm nCI) e) (fun h₃ hn₃ hs₃ => ?_) (by simp [compEnvC, relabel, hkind]))
        refine wpAny_tests_nil ?_
        simp only [if_true]
        have st₃ := W.frame _ _ _ st₂ fun b hb o e => hs₃.extBut b o (fun q => by
          have q' : b = C := q
          rcases List.mem_cons.mp hb with e | e
          · exact nCI (e.symm.trans q')
          · exact (off _ hm).2.1 ((List.mem_singleton.mp e).symm.trans q')) e
        obtain ⟨oI, heI, hoI⟩ : ∃ o, h₃.get? I = some o ∧ True := by obtain ⟨o, e, _⟩ := st₃.1; exact ⟨o, e, trivial⟩
        obtain ⟨oC, heC, hoC⟩ := LCg.ns_obj hn₃
        have F₃ : Fr h₀ env.locals h₃ m := (LCg.fr_but F' hk₂ hIL hI₀).change hs₃ nCL hC₀
        have N₃ : News h₀ env.locals h₃ ((I, oI) :: (C, oC) :: (D, LCg.lst ys) :: news) := by
          have N₂' := LCg.news_but N' hk₂ fun p hp => by
            rcases List.mem_cons.mp hp with rfl | hp
            · exact Ne.symm nDI
            · exact offI p hp
          intro p hp
          rcases List.mem_cons.mp hp with rfl | hp
          · exact ⟨heI, Ne.symm hIL, hI₀⟩
          rcases List.mem_cons.mp hp with rfl | hp
          · exact ⟨heC, nCL, hC₀⟩
          refine ⟨hs₃.extBut _ _ ?_ (N₂' p hp).1, (N₂' p hp).2⟩
          rcases List.mem_cons.mp hp with rfl | hp
          · exact nCD
          · exact (off p hp).2.1
        refine wpAny_mono (wpAny_toks (turn kk t I oI C oC D _ ys h₃ _ _ ?_ (List.mem_of_getElem? hkk) hoC (by simp) F₃ N₃ off3 ⟨nCI, nDI, Ne.symm nCD⟩)) (fun y s₄ q => ?_) fun _ _ e => e.1
        · exact Nat.le_succ_of_le le₂'
        obtain ⟨⟨h₄, tk₄, news₄, rfl, F₄, N₄, _, _, hn4, t', rfl⟩, le₄⟩ := q
        subst hn4
        have zI := (N₄ (I, oI) List.mem_cons_self).1
        have zC := (N₄ (C, oC) (List.mem_cons_of_mem _ List.mem_cons_self)).1
        have zD := (N₄ (D, LCg.lst ys) (List.mem_cons_of_mem _ (List.mem_cons_of_mem _ List.mem_cons_self))).1
        have N₄' : News h₀ env.locals h₄ news₄ := fun p hp => N₄ p (List.mem_cons_of_mem _ (List.mem_cons_of_mem _ (List.mem_cons_of_mem _ hp)))
        have st₄ : h₄.IsListIter I ax (i + 1) ∧ h₄.IsList ax vs.toArray := ⟨by obtain ⟨o', q, r⟩ := st₃.1; rw [heI] at q; cases q; exact ⟨oI, zI, r⟩, ⟨_, (N₄' _ hm).1, rfl, _, rfl⟩⟩
        have hyl : ys.length = i := by rw [hys.length, List.length_map, List.length_take]; omega
        refine append_at (hsz := by show ys.toArray.size ≤ sizeLine; rw [List.size_toArray, hyl]; rw [List.size_toArray] at hlt; exact Nat.le_trans (Nat.le_of_lt hlt) hsz) zD fun h₅ hs₅ hD₅ => ?_
        refine ⟨k, Nat.lt_succ_self _, i + 1, h₅, tk₄, ys ++ [.int (g kk) t'], _, by omega, rfl, ?_, ?_, ?_, F₄.change hs₅ nDL hD₀, (hoC.ns zC).sameBut hs₅ (Ne.symm nCD), fun p hp => ?_⟩
        · exact Nat.le_trans le₂' (Nat.le_trans (by first | exact Nat.le_refl _ | exact Nat.le_succ _) le₄)
        · rw [List.take_add_one, hkk]
          simpa using IntsAre.append hys (.cons (g kk) t' .nil)
        · refine W.frame _ _ _ st₄ fun b hb o e => hs₅.extBut b o (fun q => ?_) e
          have q' : b = D := q
          rcases List.mem_cons.mp hb with e | e
          · exact nDI (e.symm.trans q')
          · exact (off _ hm).2.2 ((List.mem_singleton.mp e).symm.trans q')
        · rcases List.mem_cons.mp hp with rfl | hp
          · exact ⟨hD₅.trans (congrArg some (LCg.lst_snoc ys _)), nDL, hD₀⟩
          · exact ⟨hs₅.extBut _ _ (off p hp).2.2 (N₄' p hp).1, (N₄' p hp).2⟩
    · rcases List.mem_cons.mp hp with rfl | hp
      · exact ⟨accD, nDL, hD₀⟩
      · exact N2 p hp
  have lp := fun R hR => loop { s₁ with heap := h₁, toks := s₁.toks + ([] : List (Str × Value)).length } R ⟨_, Nat.le_refl _, rfl⟩ hR
  refine codeAny_compStart_list (lp _ ?_) (W.self 0 _ _ _ st1 (lp _ ?_))
  all_goals
    intro ys h tk m' hys F' N' hn'
    show wpAny _ A (assign (.Name y py) env (.ref D)) _ _ _
    refine wpAny_assign_Name (wpAny_storeName_local hy F'.ns (fun h₂ hn₂ hs₂ => ?_) hp)
    have hL₀ : h₀.get? env.locals = none := Heap.get?_none_of_le F'.above
    have F₂ : Fr h₀ env.locals h₂ (fun z => if z = y then some (.ref D) else m z) := ⟨hn₂, fun b o e => hs₂.extBut b o (fun q => by rw [q, hL₀] at e; cases e) (F'.keep b o e), F'.above⟩
    refine ⟨m', hn'.sameBut hs₂ nCL, fun h'' hs'' => fin D ys h'' _ hys (F₂.change hs'' nCL hC₀) (fun p hp => ?_) fun p hp => (off p hp).2.2⟩
    have z : h₂.get? p.1 = some p.2 := hs₂.extBut _ _ (N' p hp).2.1 (N' p hp).1
    refine ⟨hs''.extBut _ _ ?_ z, (N' p hp).2⟩
    rcases List.mem_cons.mp hp with rfl | hp
    · exact nCD
    · exact (off p hp).2.1
end
end Mine
end

section
open PySem PySem.W PySem.Calls PyProof.Rows
set_option Elab.async false
namespace Mine
local macro_rules | `(tactic| omega) => `(tactic| first | decide | lia)
section
variable {prog : Program} {w : World} {A A₀ : Around} {s : Shared} {K : Frag} {L : Addr} {h₀ base : Heap} {m mg mb : Str → Option Value} {news : List (Addr × Obj)} {p : Program} {loose : List Str} {mean : ExcName → Option Value}

/-- a call of a def with cells, its body knowing that the tokens have grown since the call -/
theorem code_defCT {env : Env} {outer : List Env} {R : Result → Shared → Prop} {name qual : Str} {params : Arguments} {body : List Stmt} {scope : Scope} {dV kV doc pm cdv ct oc : Value} {an od : Option Addr} {osl : Array (Option Value)} {f : Addr} {args : Args} {binds : List (Str × Value)}
    (B : Below A₀ base outer h₀) (F : Fr h₀ L s.heap m) (X₀ : K.In h₀) (N : News h₀ L s.heap news) (T : Top p loose mean mg mb h₀) (hA : A.frames = some (env :: outer)) (hf : env.frame = some L) (hke : env.scope.kind = .function)
    (ho : K.lookup f = some ⟨oc, od, .func (fnOf name qual params body scope dV kV doc pm an cdv ct), osl⟩) (hcd : codeIn K cdv qual = true) (hroom : A.depth < recursionLimit)
    (hbind : BindsTo s (fnOf name qual params body scope dV kV doc pm an cdv ct) args binds) (hkind : (binds.all fun y => scope.names.lookup y.1 == some .local || scope.names.lookup y.1 == some .cell) = true)
    (hnd : ((cellsFrom 0 scope.names []).map (·.1)).Nodup)
    (h : ∀ g L' h₁ tk cells, s.toks ≤ tk → Fr h₀ L g m → Fr g L' h₁ (bindL (envOfC qual scope L' f cdv).kindOf binds fun _ => none) → News g L' h₁ (cells ++ news) →
      CellsAre (bindC (envOfC qual scope L' f cdv).kindOf binds fun _ => none) (cellsFrom (L' + 1) scope.names []) cells → Below A base (env :: outer) g → K.In g → Top p loose mean mg mb g → (∀ p ∈ news, p.1 < L') →
      wpAny (model prog w) (A.deeper (envOfC qual scope L' f cdv)) (execs body (envOfC qual scope L' f cdv))
        (fun fl s' => LeaveK h₀ L m g R (match fl with | .ret v => v | _ => .none) s')
        (fun e s' => wpAny (model prog w) (A.deeper (envOfC qual scope L' f cdv)) (leaving (envOfC qual scope L' f cdv) e) (fun _ s'' => R (.error e) s'') (fun e' s'' => R (.error e') s'') s')
        { s with heap := h₁, toks := tk })
    (hco : scope.isCoroutine = false) (hgen : scope.isGenerator = false) (hk : scope.kind = .function) : codeAny (model prog w) A (.call (.ref f) args) R s := by
  obtain ⟨FG, BG, st, lv⟩ := groundX (R := R) B F N hA hf hke
  refine codeAny_call_function hroom ((X₀.keeps F.keep) _ _ ho) rfl hco hgen rfl (codeRec_of (X₀.keeps F.keep) hcd) (hbind _ _ _ _ ?_)
  refine wpAny_of_toks (wpAny_newFunctionEnv_cells hk (kindsX hkind _) fun env' he s' x hle => ?_)
  subst he
  refine ⟨(T.nolimit.keeps F.keep).keeps x.toInCall.keep, codeAny_func ?_⟩
  obtain ⟨h₁, tk, rfl, _⟩ := x.done
  have kp := x.toInCall.keep
  obtain ⟨cells, NC, Y⟩ := Cl.news (h₀ := s.heap) (Nat.le_refl _) fun n c hm => ⟨x.cell n c (lookup_of_mem_nodup (cellsFrom_names scope.names 0 (s.heap.objs.size + 1) [] [] rfl ▸ hnd) hm), x.above n c hm⟩
  have hN : News (hideAll s.heap (news.map (·.1))) s.heap.objs.size h₁ (cells ++ news) := by
    intro q hq
    rcases List.mem_append.mp hq with hq | hq
    · have z := NC q hq
      refine ⟨z.1, z.2.1, ?_⟩
      cases e : (hideAll s.heap (news.map (·.1))).get? q.1 with
      | none => rfl
      | some o => have := of_hideAll _ e; rw [z.2.2] at this; cases this
    · exact ⟨kp _ _ (N q hq).1, Nat.ne_of_lt (Heap.lt_size (N q hq).1), hideAll_none _ (List.mem_map_of_mem hq)⟩
  exact wpAny_mono (h _ _ h₁ tk cells hle FG ⟨x.toInCall.ns, fun b o e => kp b o (of_hideAll _ e), Nat.le_of_eq (hideAll_size _ _)⟩ hN Y BG (X₀.keeps st) (T.keeps st) fun q hq => Heap.lt_size (N q hq).1)
    (fun _ _ hl => lv _ _ hl) fun _ _ y => y

theorem execs_consT {M : Model} {E : Value → Shared → Prop} {Q : Flow → Shared → Prop} {st : Stmt} {rest : List Stmt} {env : Env}
    (h : wpAny M A (exec st env) (fun f s' => s.toks ≤ s'.toks → (match f with | .next => wpAny M A (execs rest env) Q E s' | f => Q f s')) E s) : wpAny M A (execs (st :: rest) env) Q E s :=
  wpAny_execs_cons (wpAny_of_toks h)
end
end Mine
end

section
open PySem PySem.W PySem.Calls PyProof.Rows
set_option Elab.async false
namespace Mine
local macro_rules | `(tactic| omega) => `(tactic| first | decide | lia)
set_option maxRecDepth 100000
set_option maxHeartbeats 4000000

local macro_rules | `(tactic| walk_at "call ref") => `(tactic| ((with_reducible show wpAny _ _ (call (Value.ref 21) _) _ _ _); (refine' c_sub _ _ _ _ _ _ _ _ _ ?cha ?chb _ _ _ _ _ _ _ _ _ _ _ _ _ _ _ _ _ ?chB ?chF ?chX ?chN ?chT ?chk ?chd ?chu ?_); (case chB => k_asm); (case chF => k_asm); (case chX => k_asm); (case chN => k_asm); (case chT => k_asm); (case chk => first | exact rfl | assumption); (case chd => first | ktr_room | (dsimp only; omega)); (case chu => first | ktr_units | (dsimp only; omega)); (case cha => omega); (case chb => omega); intro t9 h9 tk9 F9 N9; (try dsimp only)))
local macro_rules | `(tactic| k_all) => `(tactic| assumption)
theorem c_lev (w : World) (mean : ExcName → Option Value) (mg mb : Str → Option Value) (news : List (Addr × Obj)) (xa xb : Str) (mx : Int) (ta tb tm : Tok) (ha : xa.length ≤ 40) (hb : xb.length ≤ 40) (h0 : 0 ≤ mx) (h1 : mx ≤ 20) :
   Cl w mean mg mb 28 news 2 [.str xa ta, .str xb tb, .int mx tm] (RetI news (levL (lsT xa) (lsT xb) mx)) := by
  w_top off
  unfold Cl
  k_fill
  intro dp un gd cn cs a1 ccd cl outer A₀ base h₀ L m s Q E B F X N T hk hd hu hret
  refine wpAny_call ?_
  k_dflt cell_enter
  (rename Fr _ _ _ _ => lF)
  (have lF2 := frCong lF (m' := kstB (fun _ => none) [(Str.ofString "max_cost", .int mx tm), (Str.ofString "b", .str xb tb), (Str.ofString "a", .str xa ta)]) (fun y => lookup_kstB y _))
  clear lF
  k_with_none
  k_with "exec While" => refine Stop.out ?_
  k_with "LpQ" => first | refine lpQ_ret ?_ | refine lpQ_next ?_ | refine lpQ_brk ?_ | refine lpQ_cont ?_
  k_with "LpPost" => first | refine lpPost_ret ?_ | refine lpPost_next ?_ | refine lpPost_brk ?_ | refine lpPost_cont ?_
  k_with "go" => repeat' (first | (k_unfold; (try dsimp only)) | walk1 | (dsimp only; walk1) | (leave1; try dsimp only))
  k_with "hr" => (intro z h2 h3; (simp only [List.forall_mem_cons, List.not_mem_nil, false_implies, implies_true, and_true, ne_eq] at h2); (simp only [List.contains_cons, List.contains_nil, Bool.or_false, Bool.or_eq_false_iff, beq_eq_false_iff_ne, ne_eq] at h3); (simp [kstB, h2, h3]; done))
  k_with "lp" => ((case hF => assumption); (case hk => kst_all); (case hN => assumption); (case hs => kstt_sub); (case hr => k_extra "hr"))
  k_with "subscriptTail Name Slice str ref" => ((with_reducible show wpAny _ _ (subscriptTail _ (Expr.Slice none (some (Expr.BoolOp _ _ _)) none _) _ _) _ _ _); (rename Fr _ _ _ _ => lF'); (rename News _ _ _ _ => lN'); (try dsimp only); (refine slice_strN_nn (hsz := ?hsz) (s := ⟨_, _, _, _, _⟩) lF' lN' ?_); (case hsz => size_fits); intro _ _ _ _ _; (try rw [slice_nn]))
  k_with "ite" => first | (refine ine_t (by omega) ?_) | (refine ine_f (by omega) ?_)
  k_with "exec For" => ((rename Fr _ _ _ _ => lF'); (with_unfolding_all refine' For_invVF lF' ?k1 ?k2 ?_; (case k1 => exact rfl); (case k2 => exact rfl); k_whole))
  k_with "pyIter ref" => refine Stop.out ?_
  k_extra "go"
  · exact retI hret (levL_eq (by assumption)) (by assumption) (by assumption) (fun p hp => hp)
  refine Stop.mk ?_
  (rename Fr _ _ _ _ => lF)
  (rename News _ _ _ _ => lN)
  refine' lp_join (σ := Int × Tok) (fun _ => news) (fun c => [(Str.ofString "pre", .int c.1 c.2)]) [] (fun c => 0 ≤ c.1 ∧ c.1 ≤ xa.length ∧ c.1 ≤ xb.length ∧ (xa.cps.toList.drop c.1.toNat, xb.cps.toList.drop c.1.toNat) = cp xa.cps.toList xb.cps.toList) lF ?turn ?done
  case turn =>
    refine' lp_while (σ := Int × Tok) (fun _ => news) (fun c => [(Str.ofString "pre", .int c.1 c.2)]) [] (fun c => 0 ≤ c.1 ∧ c.1 ≤ xa.length ∧ c.1 ≤ xb.length ∧ cp (xa.cps.toList.drop c.1.toNat) (xb.cps.toList.drop c.1.toNat) = cp xa.cps.toList xb.cps.toList) (fun c => xa.length - c.1.toNat) (0, _) lF lN ?hk ?hp ?hE ?turn
    (case hk => kst_all)
    (case hp => dsimp only; exact ⟨by omega, by omega, by omega, rfl⟩)
    (case hE => with_unfolding_all passes_own)
    clear lF lN; intro c uu hh tk9 hP lF lN; k_fold
    obtain ⟨hP0, hP1, hP2, hP3⟩ := hP
    k_extra "go"
    · rename (Txt.item _ _ == Txt.item _ _) = true => he
      have q1 : c.1 < xa.length := by omega
      have q2 : c.1 < xb.length := by omega
      rw [item_at hP0 q1, item_at hP0 q2, tx1_eq] at he
      have he' := of_decide_eq_true he
      have st := cp_step (a := lsT xa) (b := lsT xb) (i := c.1.toNat) (by rw [ls_len]; omega) (by rw [ls_len]; omega) he'
      refine' lpEx (σ := Int × Tok) (_, _) ?hF ?hN ?hs ?hk ?hr ?hx
      k_extra "lp"
      case hx =>
        dsimp only
        have e1 : (c.1 + 1).toNat = c.1.toNat + 1 := by omega
        rw [e1]
        exact ⟨⟨by omega, by omega, by omega, st ▸ hP3⟩, by omega⟩
    · rename (Txt.item _ _ == Txt.item _ _) = false => he
      have q1 : c.1 < xa.length := by omega
      have q2 : c.1 < xb.length := by omega
      rw [item_at hP0 q1, item_at hP0 q2, tx1_eq] at he
      have he' := of_decide_eq_false he
      have st := cp_stop (a := lsT xa) (b := lsT xb) (i := c.1.toNat) (by rw [ls_len]; omega) (by rw [ls_len]; omega) he'
      refine' lpEx (σ := Int × Tok) (_, _) ?hF ?hN ?hs ?hk ?hr ?hx
      k_extra "lp"
      (case hx => exact ⟨hP0, hP1, hP2, st.symm.trans hP3⟩)
    · have st := cp_end_r (a := lsT xa) (b := lsT xb) (i := c.1.toNat) (by rw [ls_len]; omega)
      refine' lpEx (σ := Int × Tok) (_, _) ?hF ?hN ?hs ?hk ?hr ?hx
      k_extra "lp"
      (case hx => exact ⟨hP0, hP1, hP2, st.symm.trans hP3⟩)
    · have st := cp_end_l (a := lsT xa) (b := lsT xb) (i := c.1.toNat) (by rw [ls_len]; omega)
      refine' lpEx (σ := Int × Tok) (_, _) ?hF ?hN ?hs ?hk ?hr ?hx
      k_extra "lp"
      (case hx => exact ⟨hP0, hP1, hP2, st.symm.trans hP3⟩)
  clear lF lN; intro c1 uu hh tk9 hX lF lN; (try dsimp only)
  obtain ⟨hX0, hX1, hX2, hX3⟩ := hX
  generalize hA1 : (cp (lsT xa) (lsT xb)).1 = A1
  generalize hB1 : (cp (lsT xa) (lsT xb)).2 = B1
  have eA : Txt.slice xa (some c1.1) none = tx A1 := by rw [slice_from hX0 hX1, ← hA1]; exact congrArg (fun p : List Nat × List Nat => tx p.1) hX3
  have eB : Txt.slice xb (some c1.1) none = tx B1 := by rw [slice_from hX0 hX2, ← hB1]; exact congrArg (fun p : List Nat × List Nat => tx p.2) hX3
  have lA : (tx A1).length ≤ 40 := by rw [← eA]; have := Txt.slice_le xa (some c1.1) none; omega
  have lB : (tx B1).length ≤ 40 := by rw [← eB]; have := Txt.slice_le xb (some c1.1) none; omega
  k_extra "go"
  refine Stop.mk ?_
  (rename Fr _ _ _ _ => lF)
  (rename News _ _ _ _ => lN)
  rw [eA, eB] at lF
  refine' lp_join (σ := Int × Tok) (fun _ => news) (fun c => [(Str.ofString "post", .int c.1 c.2)]) [] (fun c => c.1 ≤ 0 ∧ -c.1 ≤ A1.length ∧ -c.1 ≤ B1.length ∧ (A1.reverse.drop (-c.1).toNat, B1.reverse.drop (-c.1).toNat) = cp A1.reverse B1.reverse) lF ?turn2 ?done2
  case turn2 =>
    refine' lp_while (σ := Int × Tok) (fun _ => news) (fun c => [(Str.ofString "post", .int c.1 c.2)]) [] (fun c => c.1 ≤ 0 ∧ -c.1 ≤ A1.length ∧ -c.1 ≤ B1.length ∧ cp (A1.reverse.drop (-c.1).toNat) (B1.reverse.drop (-c.1).toNat) = cp A1.reverse B1.reverse) (fun c => A1.length - (-c.1).toNat) (0, _) lF lN ?hk2 ?hp2 ?hE2 ?tt2
    (case hk2 => kst_all)
    (case hp2 => dsimp only; exact ⟨by omega, by omega, by omega, rfl⟩)
    (case hE2 => with_unfolding_all passes_own)
    clear lF lN; intro c uu hh tk9 hP lF lN; k_fold
    obtain ⟨hP0, hP1, hP2, hP3⟩ := hP
    have fA := slice_to_neg_len (l := A1) (q := c.1) (by omega)
    have fB := slice_to_neg_len (l := B1) (q := c.1) (by omega)
    have lA' : (tx A1).length = A1.length := by simp [Str.length]
    have lB' : (tx B1).length = B1.length := by simp [Str.length]
    k_extra "go"
    all_goals first
      | (rename (Txt.item _ _ == Txt.item _ _) = true => he
         have q1 : -c.1 < A1.length := by omega
         have q2 : -c.1 < B1.length := by omega
         rw [item_back hP0 q1, item_back hP0 q2, tx1_eq] at he
         have he' := of_decide_eq_true he
         have st := cp_step (a := A1.reverse) (b := B1.reverse) (i := (-c.1).toNat) (by rw [List.length_reverse]; omega) (by rw [List.length_reverse]; omega) he'
         refine' lpEx (σ := Int × Tok) (_, _) ?hF ?hN ?hs ?hk ?hr ?hx
         k_extra "lp"
         case hx =>
           dsimp only
           have e1 : (-(c.1 - 1)).toNat = (-c.1).toNat + 1 := by omega
           rw [e1]
           exact ⟨⟨by omega, by omega, by omega, st ▸ hP3⟩, by omega⟩)
      | (rename (Txt.item _ _ == Txt.item _ _) = false => he
         have q1 : -c.1 < A1.length := by omega
         have q2 : -c.1 < B1.length := by omega
         rw [item_back hP0 q1, item_back hP0 q2, tx1_eq] at he
         have he' := of_decide_eq_false he
         have st := cp_stop (a := A1.reverse) (b := B1.reverse) (i := (-c.1).toNat) (by rw [List.length_reverse]; omega) (by rw [List.length_reverse]; omega) he'
         refine' lpEx (σ := Int × Tok) (_, _) ?hF ?hN ?hs ?hk ?hr ?hx
         k_extra "lp"
         (case hx => exact ⟨hP0, hP1, hP2, st.symm.trans hP3⟩))
      | (have st := cp_end_r (a := A1.reverse) (b := B1.reverse) (i := (-c.1).toNat) (by rw [List.length_reverse]; omega)
         refine' lpEx (σ := Int × Tok) (_, _) ?hF ?hN ?hs ?hk ?hr ?hx
         k_extra "lp"
         (case hx => exact ⟨hP0, hP1, hP2, st.symm.trans hP3⟩))
      | (have st := cp_end_l (a := A1.reverse) (b := B1.reverse) (i := (-c.1).toNat) (by rw [List.length_reverse]; omega)
         refine' lpEx (σ := Int × Tok) (_, _) ?hF ?hN ?hs ?hk ?hr ?hx
         k_extra "lp"
         (case hx => exact ⟨hP0, hP1, hP2, st.symm.trans hP3⟩))
  clear lF lN; intro c2 uu hh tk9 hX lF lN; (try dsimp only)
  obtain ⟨hX0, hX1, hX2, hX3⟩ := hX
  generalize hA2 : (cp A1.reverse B1.reverse).1.reverse = A2
  generalize hB2 : (cp A1.reverse B1.reverse).2.reverse = B2
  have eA2 : c2.1 ≠ 0 → Txt.slice (tx A1) none (some c2.1) = tx A2 := fun hn => by rw [slice_back hX0 hX1 (congrArg Prod.fst hX3) hn, hA2]
  have eB2 : c2.1 ≠ 0 → Txt.slice (tx B1) none (some c2.1) = tx B2 := fun hn => by rw [slice_back hX0 hX2 (congrArg Prod.snd hX3) hn, hB2]
  have zA2 : c2.1 = 0 → A1 = A2 := fun hn => (slice_back0 (congrArg Prod.fst hX3) hn).trans hA2
  have zB2 : c2.1 = 0 → B1 = B2 := fun hn => (slice_back0 (congrArg Prod.snd hX3) hn).trans hB2
  refine wpAny_execs_cons ?_
  refine' lp_join (σ := Tok) (fun _ => news) (fun c => [(Str.ofString "a", .str (tx A2) c)]) [] (fun _ => True) lF ?ja ?jad
  case ja =>
    k_extra "go"
    · rename Fr _ _ _ _ => F9
      rw [eA2 (by assumption)] at F9
      refine' lpEx (σ := Tok) _ ?hF ?hN ?hs ?hk ?hr ?hx
      k_extra "lp"
      (case hx => trivial)
    · have e := zA2 (by assumption)
      subst e
      refine' lpEx (σ := Tok) _ ?hF ?hN ?hs ?hk ?hr ?hx
      k_extra "lp"
      (case hx => trivial)
  clear lF lN; intro c3 uu3 hh3 tk3 _ lF lN; (try dsimp only)
  refine wpAny_execs_cons ?_
  refine' lp_join (σ := Tok) (fun _ => news) (fun c => [(Str.ofString "b", .str (tx B2) c)]) [] (fun _ => True) lF ?jb ?jbd
  case jb =>
    k_extra "go"
    · rename Fr _ _ _ _ => F9
      rw [eB2 (by assumption)] at F9
      refine' lpEx (σ := Tok) _ ?hF ?hN ?hs ?hk ?hr ?hx
      k_extra "lp"
      (case hx => trivial)
    · have e := zB2 (by assumption)
      subst e
      refine' lpEx (σ := Tok) _ ?hF ?hN ?hs ?hk ?hr ?hx
      k_extra "lp"
      (case hx => trivial)
  clear lF lN; intro c4 uu4 hh4 tk4 _ lF lN; (try dsimp only)
  have lA2 : A2.length ≤ 40 := by
    have := tx_len A1
    have : A2.length ≤ A1.length := by rw [← hA2]; have := congrArg (fun p : List Nat × List Nat => p.1.length) hX3; simp at this ⊢; omega
    omega
  have lB2 : B2.length ≤ 40 := by
    have := tx_len B1
    have : B2.length ≤ B1.length := by rw [← hB2]; have := congrArg (fun p : List Nat × List Nat => p.2.length) hX3; simp at this ⊢; omega
    omega
  have tA2 := tx_len A2
  have tB2 := tx_len B2
  k_with "exec If" => ((with_reducible show wpAny _ _ (exec (Stmt.If _ [Stmt.Assign [Expr.Tuple _ _ _] _ _] _ _) _) _ _ _); refine Stop.out ?_)
  have hLev := levL_ne (mx := mx) (by assumption) hA1 hB1 hA2 hB2
  rw [hLev] at hret
  k_extra "go"
  rotate_left
  · refine retI hret ?_ (by assumption) (by assumption) (fun p hp => hp)
    rw [levM, if_pos (.inr (List.length_eq_zero_iff.mp (by omega)))]
    rw [tA2, tB2]
  · refine retI hret ?_ (by assumption) (by assumption) (fun p hp => hp)
    rw [levM, if_pos (.inl (List.length_eq_zero_iff.mp (by omega)))]
    rw [tA2, tB2]
  refine Stop.mk ?_
  have nA2 : A2 ≠ [] := fun e => by have := congrArg List.length e; rw [List.length_nil] at this; omega
  have nB2 : B2 ≠ [] := fun e => by have := congrArg List.length e; rw [List.length_nil] at this; omega
  rw [levM, if_neg (fun e => e.elim nA2 nB2)] at hret
  generalize hA3 : (if B2.length < A2.length then B2 else A2) = A3
  generalize hB3 : (if B2.length < A2.length then A2 else B2) = B3
  refine' lp_join (σ := Tok × Tok) (fun _ => news) (fun c => [(Str.ofString "a", .str (tx A3) c.1), (Str.ofString "b", .str (tx B3) c.2)]) [] (fun _ => True) lF ?jc ?jcd
  case jc =>
    refine wpAny_If ?_
    k_extra "go"
    · have hlt : B2.length < A2.length := by omega
      rw [if_pos hlt] at hA3 hB3
      subst hA3 hB3
      refine' lpEx (σ := Tok × Tok) (_, _) ?hF ?hN ?hs ?hk ?hr ?hx
      k_extra "lp"
      (case hx => trivial)
    · have hlt : ¬ B2.length < A2.length := by omega
      rw [if_neg hlt] at hA3 hB3
      subst hA3 hB3
      refine' lpEx (σ := Tok × Tok) (_, _) ?hF ?hN ?hs ?hk ?hr ?hx
      k_extra "lp"
      (case hx => trivial)
  clear lF lN; intro c5 uu5 hh5 tk5 _ lF lN; (try dsimp only)
  have hN3 : (if B2.length < A2.length then levN B2 A2 mx else levN A2 B2 mx) = levN A3 B3 mx := by rw [← hA3, ← hB3]; split <;> rfl
  rw [hN3] at hret
  have l3 : A3.length ≤ B3.length ∧ 0 < A3.length ∧ B3.length ≤ 40 := by rw [← hA3, ← hB3]; split <;> omega
  clear hN3 hA3 hB3 nA2 nB2 hLev tA2 tB2 lA2 lB2 zA2 zB2 eA2 eB2 hA2 hB2 lA lB eA eB hA1 hB1
  obtain ⟨l3a, l3b, l3c⟩ := l3
  have tA3 := tx_len A3
  have tB3 := tx_len B3
  have lF2 := frCong lF (m' := kstB (fun _ => none) [(Str.ofString "a", .str (tx A3) c5.1), (Str.ofString "b", .str (tx B3) c5.2), (Str.ofString "max_cost", .int mx tm), (Str.ofString "pre", .int c1.1 c1.2), (Str.ofString "post", .int c2.1 c2.2)]) (fun y => by (simp only [kstB, List.contains_nil, Bool.false_eq_true, if_false]); (repeat' split) <;> first | rfl | (subst_vars; first | rfl | (exfalso; contradiction) | (rename _ = _ => ee; revert ee; decide) | skip))
  clear lF
  k_with "call type:list" => refine Stop.out ?_
  k_extra "go"
  · refine retI hret ?_ (by assumption) (by assumption) (fun p hp => hp)
    rw [levN, if_pos (by omega)]
  refine Stop.mk ?_
  rw [levN, if_neg (by omega)] at hret
  (rename IsRange _ _ _ _ _ _ _ _ => rgX)
  (rename Fr _ _ _ _ => lF)
  (rename News _ _ _ _ => lN)
  have sm := small_two ⟨A3.length, by omega⟩
  refine' list_range_mk A3.length rfl lF lN rgX (by rw [tA3]; exact sm.1) (by rw [tA3]; exact sm.2) (by omega) ?_
  clear lF lN rgX sm
  intro D h6 tk6 ys cnt lF lN hDn hys
  rw [row0_range] at hys
  (try dsimp only)
  k_extra "go"
  refine Stop.mk ?_
  (rename IsRange _ _ _ _ _ _ _ _ => rgX)
  (rename Fr _ _ _ _ => lF)
  (rename News _ _ _ _ => lN)
  refine' lp_range (σ := (List Value × List Int) × (Int × Tok)) B3.length (fun c => (D, listOf c.1.1.toArray cnt) :: news) (fun c => [(Str.ofString "result", .int c.2.1 c.2.2)]) [Str.ofString "bindex", Str.ofString "bchar", Str.ofString "distance", Str.ofString "minimum", Str.ofString "index", Str.ofString "substitute", Str.ofString "insert_delete"]
    (fun i c => IntsAre c.1.1 c.1.2 ∧ c.1.2.length = A3.length ∧ levO mx A3 (B3.drop i) i c.1.2 c.2.1 = levO mx A3 B3 0 (row0 A3.length) 0) ((ys, row0 A3.length), (0, _)) rfl rgX (small_one (by omega) (by omega) (by omega) (by omega)) (by rw [rangeSize_nat]; omega) lF lN ?hk3 ?hp3 ?ha3 ?turn3 ?done3
  (case hk3 => kst_all)
  (case hp3 => exact ⟨hys, row0_len _, rfl⟩)
  (case ha3 => exact fun _ => rfl)
  case turn3 =>
    clear lF lN rgX; intro c3 i ti u3 h3 tk3 own3 hi hoff hP lF lN; (try dsimp only)
    obtain ⟨hP0, hP1, hP2⟩ := hP
    rw [List.cons_append] at lN
    have hDn3 : ∀ p ∈ news ++ own3, p.1 ≠ D := fun p hp => (List.mem_append.mp hp).elim (hDn p) (hoff.ne (List.Mem.head _) p)
    k_extra "go"
    refine Stop.mk ?_
    (rename IsRange _ _ _ _ _ _ _ _ => rgX)
    (rename Fr _ _ _ _ => lF)
    (rename News _ _ _ _ => lN)
    generalize hch : B3.getD i 0 = ch
    have eb : Txt.item (tx B3) (0 + (i : Int)) = tx [ch] := by rw [item_at (by omega) (by omega), ← hch]; congr 3; omega
    refine' lp_range (σ := (List Value × List Int) × (Int × Tok) × (Int × Tok) × (Int × Tok)) A3.length (fun c => (D, listOf c.1.1.toArray cnt) :: (news ++ own3))
      (fun c => [(Str.ofString "distance", .int c.2.1.1 c.2.1.2), (Str.ofString "result", .int c.2.2.1.1 c.2.2.1.2), (Str.ofString "minimum", .int c.2.2.2.1 c.2.2.2.2)]) [Str.ofString "index", Str.ofString "substitute", Str.ofString "insert_delete"]
      (fun j c => IntsAre c.1.1 c.1.2 ∧ c.1.2.length = A3.length ∧ inR ch A3 c3.1.2 ((0 + (i : Int)) * 2) ((0 + (i : Int)) * 2) 9223372036854775807 = (c.1.2.take j ++ (inR ch (A3.drop j) (c.1.2.drop j) c.2.1.1 c.2.2.1.1 c.2.2.2.1).1, (inR ch (A3.drop j) (c.1.2.drop j) c.2.1.1 c.2.2.1.1 c.2.2.2.1).2)) ((c3.1.1, c3.1.2), (_, _), (_, _), (_, _)) rfl rgX (small_one (by omega) (by omega) (by omega) (by omega)) (by rw [rangeSize_nat]; omega) lF lN ?hk4 ?hp4 ?ha4 ?turn4 ?done4
    (case hk4 => kst_all)
    (case hp4 => exact ⟨hP0, hP1, by simp⟩)
    (case ha4 => exact fun _ => rfl)
    case turn4 =>
      clear lF lN rgX; intro c4 j tj u4 h4 tk4 own4 hj hoff4 hP4 lF lN; (try dsimp only)
      obtain ⟨hQ0, hQ1, hQ2⟩ := hP4
      rw [List.cons_append] at lN
      have hDn4 : ∀ p ∈ (news ++ own3) ++ own4, p.1 ≠ D := fun p hp => (List.mem_append.mp hp).elim (hDn3 p) (hoff4.ne (List.Mem.head _) p)
      have ej : (0 + (j : Int)).toNat = j := by omega
      have ea : Txt.item (tx A3) (0 + (j : Int)) = tx [A3.getD j 0] := by rw [item_at (by omega) (by omega), ej]
      k_extra "go"
      · rename (ite _ _ _ < _) => hlt
        rename IntsAre (List.set _ _ _) _ => hi9
        rw [ej, eb, ea] at hlt
        refine' lpExI (τ := (Int × Tok) × (Int × Tok) × (Int × Tok)) hi9 ((_, _), (_, _), (_, _)) ?hF ?hN ?hs ?hk ?hr ?hx
        (case hF => assumption)
        (case hk => kst_all)
        case hx =>
          dsimp only
          refine ⟨hi9, (List.length_set ..).trans hQ1, ?_⟩
          rw [ej, eb, ea]
          exact inP_step hj hQ1 hQ2 rfl rfl (if_pos hlt).symm
        (case hN => assumption)
        (case hs => exact fun p hp => hp)
        (case hr => k_extra "hr")
      · rename ¬ (ite _ _ _ < _) => hlt
        rename IntsAre (List.set _ _ _) _ => hi9
        rw [ej, eb, ea] at hlt
        refine' lpExI (τ := (Int × Tok) × (Int × Tok) × (Int × Tok)) hi9 ((_, _), (_, _), (_, _)) ?hF ?hN ?hs ?hk ?hr ?hx
        (case hF => assumption)
        (case hk => kst_all)
        case hx =>
          dsimp only
          refine ⟨hi9, (List.length_set ..).trans hQ1, ?_⟩
          rw [ej, eb, ea]
          exact inP_step hj hQ1 hQ2 rfl rfl (if_neg hlt).symm
        (case hN => assumption)
        (case hs => exact fun p hp => hp)
        (case hr => k_extra "hr")
    clear lF lN rgX
    intro c4 u4 h4 tk4 hP4 lF lN; (try dsimp only)
    obtain ⟨hQ0, hQ1, hQ2⟩ := hP4
    have hT := inP_end hQ1 hQ2
    rw [show (0 + (i : Int)) * 2 = 2 * (i : Int) by omega] at hT
    have hS := levO_step (mx := mx) (res := c3.2.1) hi hch hT
    k_extra "go"
    · refine retI hret ?_ (by assumption) (by assumption) (fun p hp => .tail _ (List.mem_append_left _ hp))
      rw [← hP2, hS, if_pos (by assumption)]
    · refine' lpExI (τ := Int × Tok) hQ0 (_, _) ?hF ?hN ?hs ?hk ?hr ?hx
      (case hF => assumption)
      (case hk => kst_all)
      (case hx => exact ⟨hQ0, hQ1, by rw [← hP2, hS, if_neg (by assumption)]⟩)
      (case hN => assumption)
      (case hs => exact fun p hp => hp)
      (case hr => k_extra "hr")
  clear lF lN rgX
  intro c3 u3 h3 tk3 hP lF lN; (try dsimp only)
  obtain ⟨hP0, hP1, hP2⟩ := hP
  rw [levO_end] at hP2
  k_extra "go"
  · refine retI hret hP2 (by assumption) (by assumption) (fun p hp => .tail _ hp)
end Mine
end

section
open PySem PySem.W PySem.Calls PyProof.Rows
set_option Elab.async false
namespace Mine
local macro_rules | `(tactic| omega) => `(tactic| first | decide | lia)
set_option maxRecDepth 100000
set_option maxHeartbeats 4000000
local macro_rules | `(tactic| k_all) => `(tactic| assumption)
local macro_rules | `(tactic| k_mem) => `(tactic| assumption)

local macro_rules | `(tactic| walk_at "call ref") => `(tactic| ((with_reducible show wpAny _ _ (call (Value.ref 28) _) _ _ _); (refine' c_lev _ _ _ _ _ _ _ _ _ _ _ ?cha ?chb ?ch0 ?ch1 _ _ _ _ _ _ _ _ _ _ _ _ _ _ _ _ _ ?chB ?chF ?chX ?chN ?chT ?chk ?chd ?chu ?_); (case chB => k_asm); (case chF => k_asm); (case chX => k_asm); (case chN => k_asm); (case chT => k_asm); (case chk => first | exact rfl | assumption); (case chd => first | ktr_room | (dsimp only; omega)); (case chu => first | ktr_units | (dsimp only; omega)); (case cha => k_extra "c_lev a"); (case chb => k_extra "c_lev a"); (case ch0 => omega); (case ch1 => omega); intro t9 h9 tk9 F9 N9; (try dsimp only)))
local macro_rules | `(tactic| walk_at "call ref") => `(tactic| ((with_reducible show wpAny _ _ (call (Value.ref 35) _) _ _ _); (refine' c_lt _ _ _ _ _ _ _ _ _  _ _ _ _ _ _ _ _ _ _ _ _ _ _ _ _ _ ?chB ?chF ?chX ?chN ?chT ?chk ?chd ?chu ?_); (case chB => k_asm); (case chF => k_asm); (case chX => k_asm); (case chN => k_asm); (case chT => k_asm); (case chk => first | exact rfl | assumption); (case chd => first | ktr_room | (dsimp only; omega)); (case chu => first | ktr_units | (dsimp only; omega)); intro h9 tk9 F9 N9; (try dsimp only)))
local macro_rules | `(tactic| walk_at "exec For Name Name cons nil") => `(tactic| k_extra "forNN")
local macro_rules | `(tactic| walk_at "call builtin:list.append") => `(tactic| ((with_reducible show wpAny _ _ (call (Value.builtin _) [Value.ref _, _]) _ _ _); k_dflt (refine' append_K ?k1 ?k2 ?k3 ?_ ?z; (case k1 => k_asm); (case k2 => k_asm); (case k3 => k_upd); (case z => k_extra "app")); intro h' F' N'; (try k_sweep)))
theorem c_taken (w : World) (mean : ExcName → Option Value) (mg mb : Str → Option Value) (news : List (Addr × Obj)) (lp lq : Addr) (vp vq : List Value) (np nq : Nat) (ys : List Str) (qs : List Int) (wish bound : Int) (tw tb : Tok)
   (hmp : (lp, listOf vp.toArray np) ∈ news) (hmq : (lq, listOf vq.toArray nq) ∈ news) (hp : StrsAre vp ys) (hq : IntsAre vq qs) (hlp : ys.length = 16) (hlq : qs.length = 16)
   (hys : ∀ i, i < 16 → (ys.getD i Str.empty).length ≤ 40) (hb0 : 0 ≤ bound) (hb1 : bound ≤ 20) (hw0 : 0 ≤ wish) (hw1 : wish ≤ 20)
   (hd : ∀ o r, o < r → r < 16 → mi (levL (lsT (ys.getD o Str.empty)) (lsT (ys.getD r Str.empty)) bound) wish = mi (qs.getD (r ^^^ o) 0) wish) :
   Cl w mean mg mb 143 news 3 [.ref lp, .ref lq, .int wish tw, .int bound tb] (RetL news fun ns => ns = nInts (takP qs wish 16)) := by
  w_top off
  unfold Cl
  k_fill
  intro dp un gd cn cs a1 ccd cl outer A₀ base h₀ L m s Q E B F X N T hk hdp hu hret
  refine wpAny_call ?_
  k_dflt cell_enter
  (rename Fr _ _ _ _ => lF)
  (have lF2 := frCong lF (m' := kstB (fun _ => none) [(Str.ofString "bound", .int bound tb), (Str.ofString "wish", .int wish tw), (Str.ofString "prices", .ref lq), (Str.ofString "pages", .ref lp)]) (fun y => lookup_kstB y _))
  clear lF
  k_with_none
  k_with "exec While" => refine Stop.out ?_
  k_with "LpQ" => first | refine lpQ_ret ?_ | refine lpQ_next ?_ | refine lpQ_brk ?_ | refine lpQ_cont ?_
  k_with "LpPost" => first | refine lpPost_ret ?_ | refine lpPost_next ?_ | refine lpPost_brk ?_ | refine lpPost_cont ?_
  k_with "go" => repeat' (first | (k_unfold; (try dsimp only)) | walk1 | (dsimp only; walk1) | (leave1; try dsimp only))
  k_with "hr" => (intro z h2 h3; (simp only [List.forall_mem_cons, List.not_mem_nil, false_implies, implies_true, and_true, ne_eq] at h2); (simp only [List.contains_cons, List.contains_nil, Bool.or_false, Bool.or_eq_false_iff, beq_eq_false_iff_ne, ne_eq] at h3); (simp [kstB, h2, h3]; done))
  k_with "lp" => ((case hF => assumption); (case hk => kst_all); (case hN => assumption); (case hs => kstt_sub); (case hr => k_extra "hr"))
  k_with "subscriptTail Name Slice str ref" => ((with_reducible show wpAny _ _ (subscriptTail _ (Expr.Slice none (some (Expr.BoolOp _ _ _)) none _) _ _) _ _ _); (rename Fr _ _ _ _ => lF'); (rename News _ _ _ _ => lN'); (try dsimp only); (refine slice_strN_nn (hsz := ?hsz) (s := ⟨_, _, _, _, _⟩) lF' lN' ?_); (case hsz => size_fits); intro _ _ _ _ _; (try rw [slice_nn]))
  k_with "ite" => first | (refine ine_t (by omega) ?_) | (refine ine_f (by omega) ?_)
  k_with "exec For" => ((rename Fr _ _ _ _ => lF'); (with_unfolding_all refine' For_invVF lF' ?k1 ?k2 ?_; (case k1 => exact rfl); (case k2 => exact rfl); k_whole))
  k_with "pyIter ref" => refine Stop.out ?_
  k_extra "go"
  refine Stop.mk ?_
  (rename IsRange _ _ _ _ _ _ _ _ => rgX)
  (rename Fr _ _ _ _ => lF)
  (rename News _ _ _ _ => lN)
  (rename ∀ p ∈ news, p.1 < _ => hlt)
  obtain ⟨D, hD⟩ := news_head lN
  subst hD
  have hne : ∀ p ∈ news, p.1 ≠ D := fun p hp => Nat.ne_of_lt (hlt p hp)
  refine' lp_range (σ := (List Value × List Int) × Nat) 16 (fun c => (_, listOf c.1.1.toArray c.2) :: news) (fun c => []) [Str.ofString "free", Str.ofString "other", Str.ofString "told"]
    (fun i c => IntsAre c.1.1 c.1.2 ∧ c.1.2 = nInts (takP qs wish i)) (([], []), _) rfl rgX (small_one (by omega) (by omega) (by omega) (by omega)) (by rw [rangeSize_nat]; rfl) lF lN ?hk3 ?hp3 ?ha3 ?turn3 ?done3
  (case hk3 => kst_all)
  (case hp3 => exact ⟨.nil, rfl⟩)
  (case ha3 => exact fun _ => rfl)
  case turn3 =>
    clear lF lN rgX; intro c3 i ti u3 h3 tk3 own3 hi hoff hP lF lN; (try dsimp only)
    obtain ⟨hP0, hP1⟩ := hP
    have hn3 : ∀ p ∈ news ++ own3, p.1 ≠ D := fun p hp => (List.mem_append.mp hp).elim (hne p) (hoff.ne (List.Mem.head _) p)
    rw [List.cons_append] at lN
    have hmp3 : (lp, listOf vp.toArray np) ∈ news ++ own3 := List.mem_append_left _ hmp
    have hmq3 : (lq, listOf vq.toArray nq) ∈ news ++ own3 := List.mem_append_left _ hmq
    k_with "subscriptTail Name Name ref int" => ((try dsimp only); (refine' item_strsR (ys := ys) ?siL hp ?si0 ?si1 ?si2 ?_ ?siS); (case siL => exact News.isList (by assumption) (by assumption)); (case si0 => omega); (case si1 => omega); (case si2 => omega); (case siS => with_unfolding_all rfl); intro tS)
    k_with "c_lev a" => exact hys _ (by omega)
    k_with "forNN" => refine Stop.out ?_
    k_extra "go"
    refine Stop.mk ?_
    (rename Fr _ _ _ _ => lF)
    (rename News _ _ _ _ => lN)
    refine' lp_join (σ := Bool) (fun _ => (D, listOf c3.1.1.toArray c3.2) :: (news ++ own3)) (fun c => [(Str.ofString "free", .bool c)]) [Str.ofString "other", Str.ofString "told"]
      (fun c => c = (takP qs wish i).all (fun o => decide (¬ qs.getD (i ^^^ o) 0 < wish))) lF ?jn ?jnd
    case jn =>
      (with_unfolding_all refine' For_invVF lF ?k1 ?k2 ?_; (case k1 => exact rfl); (case k2 => exact rfl); k_whole)
      k_extra "go"
      refine Stop.mk ?_
      refine' lp_list (σ := Unit) (nn := c3.2) (fun _ => (D, listOf c3.1.1.toArray c3.2) :: (news ++ own3)) (fun c => []) [Str.ofString "told"]
        (fun j c => ∀ k, k < j → ∀ o, (takP qs wish i)[k]? = some o → ¬ qs.getD (i ^^^ o) 0 < wish) () rfl (fun _ => List.Mem.head _) hP0 lF lN ?hk4 ?hp4 ?ha4 ?turn4 ?done4
      (case hk4 => kst_all)
      (case hp4 => exact fun k hk => absurd hk (Nat.not_lt_zero _))
      (case ha4 => exact fun _ => rfl)
      case turn4 =>
        clear lF lN; intro c4 j nj tj u4 h4 tk4 own4 hj hoff4 hP4 lF lN; (try dsimp only)
        rw [hP1] at hj
        obtain ⟨o, hjo, rfl, hom⟩ := nInts_get hj
        have hoi := takP_lt qs wish i o hom
        rw [List.cons_append] at lN
        have hmp4 : (lp, listOf vp.toArray np) ∈ (news ++ own3) ++ own4 := List.mem_append_left _ hmp3
        have hmq4 : (lq, listOf vq.toArray nq) ∈ (news ++ own3) ++ own4 := List.mem_append_left _ hmq3
        have hMp4 : (lp, listOf vp.toArray np) ∈ (D, listOf c3.1.1.toArray c3.2) :: ((news ++ own3) ++ own4) := .tail _ hmp4
        have hMq4 : (lq, listOf vq.toArray nq) ∈ (D, listOf c3.1.1.toArray c3.2) :: ((news ++ own3) ++ own4) := .tail _ hmq4
        have hx := xor16 ⟨i, hi⟩ ⟨o, Nat.lt_trans hoi hi⟩
        have hxz : Builtin.bitXor (0 + (i : Int)) (o : Int) = ((i ^^^ o : Nat) : Int) := by rw [Int.zero_add]; exact hx.1
        have hxl : (i ^^^ o) < 16 := hx.2
        have hxn : (Builtin.bitXor (0 + (i : Int)) (o : Int)).toNat = i ^^^ o := by rw [hxz]; exact Int.toNat_natCast _
        have ei : (0 + (i : Int)).toNat = i := by omega
        have hdd : mi (levL (lsT (ys.getD ((o : Int)).toNat Str.empty)) (lsT (ys.getD (0 + (i : Int)).toNat Str.empty)) bound) wish = mi (qs.getD (Builtin.bitXor (0 + (i : Int)) (o : Int)).toNat 0) wish := by
          rw [ei, Int.toNat_natCast, hxn]
          exact hd o i hoi hi
        k_with "ite" => (refine ine_f hdd ?_)
        k_extra "go"
        · rename levL _ _ _ < _ => hlt2
          have hpl := (mi_lt hdd).mp hlt2
          rw [hxn] at hpl
          refine' lpEx (σ := Bool) _ ?hF ?hN ?hs ?hk ?hr ?hx
          (case hF => assumption)
          (case hk => kst_all)
          (case hN => assumption)
          (case hs => exact fun p hp => by rw [List.append_nil] at hp; exact (List.mem_cons.mp hp).elim (fun e => e ▸ List.Mem.head _) fun q => .tail _ (List.mem_append_left _ q))
          (case hr => k_extra "hr")
          (case hx => exact all_no hom (decide_eq_false fun hn => hn hpl))
        · rename ¬ levL _ _ _ < _ => hlt2
          have hpl : ¬ qs.getD (i ^^^ o) 0 < wish := fun q => hlt2 ((mi_lt hdd).mpr (by rw [hxn]; exact q))
          refine' lpEx (σ := Unit) () ?hF ?hN ?hs ?hk ?hr ?hx
          (case hF => assumption)
          (case hk => kst_all)
          (case hN => assumption)
          (case hs => exact fun p hp => hp)
          (case hr => k_extra "hr")
          case hx =>
            intro k hk o' ho'
            rcases Nat.lt_or_ge k j with h | h
            · exact hP4 k h o' ho'
            · have e : k = j := by omega
              rw [e, hjo] at ho'
              exact (Option.some.inj ho') ▸ hpl
      clear lF lN
      intro c4 u4 h4 tk4 hP4 lF lN; (try dsimp only)
      k_extra "go"
      refine' lpEx (σ := Bool) _ ?hF ?hN ?hs ?hk ?hr ?hx
      (case hF => assumption)
      (case hk => kst_all)
      (case hN => assumption)
      (case hs => exact fun p hp => by rw [List.append_nil] at hp; exact hp)
      (case hr => k_extra "hr")
      (case hx => exact all_yes fun k hk o ho => decide_eq_true (hP4 k (by rw [hP1, nInts_len]; exact hk) o ho))
    clear lF lN
    intro c4 u4 h4 tk4 hP4 lF lN; (try dsimp only)
    have hsz3 : c3.1.1.length ≤ 16 := by
      rw [hP0.length, hP1, nInts_len]
      exact Nat.le_trans (takP_len qs wish i) (by omega)
    k_with "app" => (rw [List.size_toArray, sizeLine_eq]; omega)
    k_extra "go"
    · have hi9 : IntsAre (c3.1.1 ++ [Value.int (0 + (i : Int)) ti]) (c3.1.2 ++ [0 + (i : Int)]) := IntsAre.append hP0 (.cons _ _ .nil)
      refine' lpExI (τ := Nat) hi9 (c3.2 + 1) ?hF ?hN ?hs ?hk ?hr ?hx
      (case hF => assumption)
      (case hk => kst_all)
      (case hN => assumption)
      (case hs => (intro p hp; rw [List.push_toArray]; exact hp))
      (case hr => k_extra "hr")
      case hx =>
        refine ⟨hi9, ?_⟩
        rename c4 = true => hc4
        rw [takP, if_pos (hP4.symm.trans hc4), Int.zero_add, hP1]
        simp
    · refine' lpExI (τ := Nat) hP0 c3.2 ?hF ?hN ?hs ?hk ?hr ?hx
      (case hF => assumption)
      (case hk => kst_all)
      (case hN => assumption)
      (case hs => exact fun p hp => hp)
      (case hr => k_extra "hr")
      case hx =>
        refine ⟨hP0, ?_⟩
        rename c4 = false => hc4
        rw [takP, if_neg (by rw [← hP4, hc4]; exact Bool.false_ne_true), hP1]
  clear lF lN rgX
  intro c3 u3 h3 tk3 hP lF lN; (try dsimp only)
  obtain ⟨hP0, hP1⟩ := hP
  k_extra "go"
  exact retL hret hP1 hP0 hne (by assumption) (by assumption) (List.Mem.head _) (fun p hp => .tail _ hp)
end Mine
end

section
open PySem PySem.W PySem.Calls PyProof.Rows
set_option Elab.async false
namespace Mine
local macro_rules | `(tactic| omega) => `(tactic| first | decide | lia)
set_option maxRecDepth 100000

noncomputable def sgTab : List (Nat × Int) := [(33,54),(37,24),(40,7),(41,8),(42,16),(43,14),(44,12),(45,15),(46,23),(47,17),(58,11),(61,22),(64,49),(91,9),(93,10),(94,32),(123,25),(124,18),(125,26),(126,31),(60,20),(62,21)]
noncomputable def sgn (c : Nat) : Int := (sgTab.lookup c).getD 0
noncomputable def symS (ls : List Nat) (c : Nat) : Int := if c ∈ ls then [255, 256, 1, 257].getD (ls.idxOf c) 0 else sgn c
noncomputable def itemsS (num : Int) : List Int := [255, 1, 0, num, 20, 21, 255, 1, 0, num, 20, 21]
noncomputable def stepS (num : Int) (tu : List Int) (x : Int) : List Int :=
  if x ≥ 256 then (tu.set 1 1).set 2 (x - 256) else
    let p := (itemsS num).idxOf x
    tu.set (([2, 0, 3] : List Nat).getD (p / 2) 0) ((p % 2 : Nat) : Int)
noncomputable def turnedS (num : Int) (xs : List Int) : List Int := xs.foldl (stepS num) [0, 0, 0, 0]
noncomputable def toldS (num : Int) (os : List Int) (xs : List Int) : Int :=
  (([0, 1, 2, 3] : List Nat).map fun k => (turnedS num xs).getD (os.getD k 0).toNat 0 * 2 ^ k).sum

theorem idxOf_first {ls : List Nat} {x : Nat} : ∀ {a : Nat}, ls[a]? = some x → (∀ j, j < a → ls[j]? ≠ some x) → ls.idxOf x = a := by
  intro a h hP
  induction ls generalizing a with
  | nil => simp at h
  | cons y r ih =>
    cases a with
    | zero =>
      simp only [List.getElem?_cons_zero, Option.some.injEq] at h
      simp [h]
    | succ b =>
      have hy : y ≠ x := fun e => hP 0 (Nat.succ_pos _) (by simp [e])
      rw [List.idxOf_cons, show (y == x) = false from beq_eq_false_iff_ne.mpr hy]
      have := ih (a := b) (by simpa using h) (fun j hj => by have := hP (j + 1) (by omega); simpa using this)
      simp [this]
theorem find_at {x : Str} {ls : List Nat} {c : Nat} (h : x.cps = ls.toArray) (hc : c ∈ ls) : Txt.find x ⟨#[c]⟩ = ((ls.idxOf c : Nat) : Int) := by
  have at_iff : ∀ i, StrLaws.At x ⟨#[c]⟩ x.length i ↔ ls[i]? = some c := by
    intro i
    have := StrLaws.subAt_one x c i
    rw [h] at this
    unfold StrLaws.At
    simpa using this
  rcases find_whole x ⟨#[c]⟩ with ⟨_, hn⟩ | ⟨i, e, hi, hn⟩
  · obtain ⟨i, hi⟩ := List.mem_iff_getElem?.mp hc
    exact absurd ((at_iff i).mpr hi) (hn i)
  · rw [e, idxOf_first ((at_iff i).mp hi) fun j hj => fun q => hn j hj ((at_iff j).mpr q)]
theorem found_in {x : Str} {ls : List Nat} {c : Nat} (h : x.cps = ls.toArray) : (Builtin.Str.occurrences x ⟨#[c]⟩ 0 x.length 1).isEmpty = !decide (c ∈ ls) := by
  have := StrLaws.found_one x c
  rw [h] at this
  have e : ls.toArray.toList = ls := by simp
  rw [e] at this
  rw [← this, Bool.not_not]

theorem ns57 (P : Params) (c : Nat) (hc : c ∈ sgTab.map (·.1)) : ∃ t : Tok, nsIn (Mine.hd.heap_1_39 P) 57 ⟨#[c]⟩ = some (some (.int (sgn c) t)) ∧ t ≠ 0 ∧ t < 358 := by
  simp only [sgTab, List.map_cons, List.map_nil, List.mem_cons, List.not_mem_nil, or_false] at hc
  rcases hc with rfl | rfl | rfl | rfl | rfl | rfl | rfl | rfl | rfl | rfl | rfl | rfl | rfl | rfl | rfl | rfl | rfl | rfl | rfl | rfl | rfl | rfl
  all_goals exact ⟨_, rfl, by decide, by decide⟩
end Mine
end

section
open PySem PySem.W PySem.Calls PyProof.Rows
set_option Elab.async false
namespace Mine
local macro_rules | `(tactic| omega) => `(tactic| first | decide | lia)

theorem idxOf_of {os : List Int} {x : Int} : ∀ {a : Nat}, os[a]? = some x → (∀ j, j < a → os[j]? ≠ some x) → ((os.idxOf x : Nat) : Int) = (a : Int) := by
  intro a h hP
  congr 1
  induction os generalizing a with
  | nil => simp at h
  | cons y r ih =>
    cases a with
    | zero =>
      simp only [List.getElem?_cons_zero, Option.some.injEq] at h
      simp [List.idxOf_cons, h]
    | succ b =>
      have hy : y ≠ x := fun e => hP 0 (Nat.succ_pos _) (by simp [e])
      rw [List.idxOf_cons, show (y == x) = false from beq_eq_false_iff_ne.mpr hy]
      have := ih (a := b) (by simpa using h) (fun j hj => by have := hP (j + 1) (by omega); simpa using this)
      simp [this]

/-- «is» of two ints whose tokens part where their values part -/
theorem is_ints {M : Model} {A : Around} {E : Value → Shared → Prop} {s : Shared} {n x : Int} {tj tx : Tok} {Q : Value → Shared → Prop} (h1 : tj ≠ 0) (h2 : tx ≠ 0) (h3 : n ≠ x → tj ≠ tx) (h4 : smallInt n = true) (hq : Q (.bool (decide (n = x))) s) :
    wpAny M A (compareOp .Is (.int n tj) (.int x tx)) Q E s := by
  show wpAny M A (do return .bool (← isSame (.int n tj) (.int x tx))) Q E s
  refine wpAny_bind ?_
  have e0 : (tj == 0 || tx == 0) = false := by simp [h1, h2]
  by_cases e : n = x
  · subst e
    rw [decide_eq_true rfl] at hq
    show wpAny M A (if (n == n && smallInt n) = true then isSame.cachedInt tj tx else isSame.created (n == n) tj tx) _ E s
    rw [if_pos (by rw [h4]; simp)]
    show wpAny M A (if (tj == 0 || tx == 0) = true then _ else _) _ E s
    rw [e0, if_neg Bool.false_ne_true]
    exact wpAny_bind (wpAny_rule (wpAny_pure (wpAny_pure hq)))
  · rw [decide_eq_false e] at hq
    have ne : (n == x) = false := beq_eq_false_iff_ne.mpr e
    show wpAny M A (if (n == x && smallInt n) = true then isSame.cachedInt tj tx else isSame.created (n == x) tj tx) _ E s
    rw [ne, Bool.false_and, if_neg Bool.false_ne_true]
    unfold isSame.created
    have nt : (tj == tx) = false := beq_eq_false_iff_ne.mpr (h3 e)
    rw [e0, nt]
    exact wpAny_pure (wpAny_pure hq)

section
variable {prog : Program} {w : World} {A : Around} {E : Value → Shared → Prop} {Q : Flow → Shared → Prop} {s : Shared} {env : Env} {h₀ : Heap} {L : Addr} {σ : Type} {m₀ : Str → Option Value}
theorem lp_enumV {elts : List PySem.Expr} {k : Nat} {pos : Pos} {body : List Stmt} {l : Addr} {vs : List Value} {ns : List Int} {nn : Nat} {news : List (Addr × Obj)} (stored : List Str) (P : Nat → Prop)
    (hh : A.handled = none) (F : Fr h₀ env.locals s.heap m₀) (N : News h₀ env.locals s.heap news) (hm : (l, listOf vs.toArray nn) ∈ news) (hi : IntsAre vs ns) (hp : P 0)
    (turn : ∀ (a : Nat) (n : Int) t tj T (u : Str → Option Value) h tk its, ns[a]? = some n → vs[a]? = some (.int n tj) → P a → IsTup h T #[.int (a : Int) t, .int n tj] →
      Fr h₀ env.locals h (fun z => if stored.contains z then u z else m₀ z) → News h₀ env.locals h (its ++ news) →
      wpAny (model prog w) A (assign (.Tuple elts k pos) env (.ref T)) (fun _ s₂ => wpAny (model prog w) A (execs body env) (LpPost h₀ env.locals s (fun _ : Unit => its ++ news) [] (fun _ => []) stored m₀ (fun _ => P (a + 1)) Q) E s₂) E { s with heap := h, toks := tk })
    (done : ∀ (u : Str → Option Value) h tk, P ns.length → Fr h₀ env.locals h (fun z => if stored.contains z then u z else m₀ z) → News h₀ env.locals h news → Q .next { s with heap := h, toks := tk }) :
    wpAny (model prog w) A (call (.type "enumerate") [.ref l]) (fun xv s₁ => wpAny (model prog w) A (pyIter xv) (fun it s₂ => TurnsAt prog w A h₀ env (.Tuple elts k pos) body Q E it s₂) E s₁) E s := by
  refine ktu_enum hh F N hm rfl rfl rfl fun I hI => ?_
  have same : ∀ m : Str → Option Value, (∀ z, stored.contains z = false → m z = m₀ z) → m = fun z => if stored.contains z then m z else m₀ z := by
    intro m h
    funext z
    cases e : stored.contains z with
    | true => simp
    | false => simp [h z e]
  have key : ∀ (vs' : List Value) (ns' : List Int) (a : Nat) (m : Str → Option Value), IntsAre vs' ns' → (∀ j, ns[a + j]? = ns'[j]?) → (∀ j, vs[a + j]? = vs'[j]?) → a + ns'.length = ns.length → P a → (∀ z, stored.contains z = false → m z = m₀ z) →
      ItemsRest prog w A E h₀ env (.Tuple elts k pos) body Q s [(I + 1, "enumerate"), (I, "list_iterator")] [(l, listOf vs.toArray nn)] (enumItems a vs') m news := by
    intro vs' ns' a m hi'
    induction hi' generalizing a m with
    | nil =>
      intro _ _ hlen hP hm'
      refine ItemsRest.zero fun h tk F' N' => ?_
      rw [same m hm'] at F'
      exact done m h tk (by rw [List.length_nil] at hlen; rw [← hlen]; exact hP) F' N'
    | @cons n tj vs'' ns'' hi'' ih =>
      intro hget hgetv hlen hP hm'
      refine ItemsRest.pair fun T t h tk hT F' => ?_
      intro o1 hc1 o2 hc2 N'
      rw [same m hm'] at F'
      have hget0 : ns[a]? = some n := by have := hget 0; simpa using this
      have hgetv0 : vs[a]? = some (.int n tj) := by have := hgetv 0; simpa using this
      refine wpAny_mono (turn a n t tj T m h tk _ hget0 hgetv0 hP hT F' N') (fun x s₂ q => wpAny_mono q (fun f s₃ q => ?_) fun _ _ e => e) fun _ _ e => e
      have up : LpEx h₀ env.locals s (fun _ : Unit => [(I + 1, o1), (I, o2)] ++ news) [] (fun _ => []) stored m₀ (fun _ => P (a + 1)) s₃ → UnrEndW h₀ env.locals { s with heap := h, toks := tk } [(I + 1, o1), (I, o2)] (fun m' n' => SubL [(l, listOf vs.toArray nn)] n' ∧ ItemsRest prog w A E h₀ env (.Tuple elts k pos) body Q s [(I + 1, "enumerate"), (I, "list_iterator")] [(l, listOf vs.toArray nn)] (enumItems (a + 1) vs'') m' n') s₃ := by
        rintro ⟨_, h', tk', m', rfl, F2, N2, _, hr, hP'⟩
        rw [List.append_nil] at N2
        refine ⟨h', tk', m', news, rfl, F2, N2, ?_, ⟨hm, trivial⟩, ih (a + 1) m' (fun j => ?_) (fun j => ?_) ?_ hP' fun z hz => hr z (fun p hp => nomatch hp) hz⟩
        · intro p hp q hq
          have := hI p hp
          rcases List.mem_cons.mp hq with rfl | hq
          · exact Nat.ne_of_lt (Nat.lt_succ_of_lt this)
          · rw [List.mem_singleton.mp hq]; exact Nat.ne_of_lt this
        · have := hget (j + 1)
          rw [show a + 1 + j = a + (j + 1) by omega, this]
          simp
        · have := hgetv (j + 1)
          rw [show a + 1 + j = a + (j + 1) by omega, this]
          simp
        · rw [List.length_cons] at hlen; omega
      cases f with
      | ret v => exact q
      | brk => exact q
      | next => exact up q
      | cont => exact up q
  exact key vs ns 0 m₀ hi (fun j => by rw [Nat.zero_add]) (fun j => by rw [Nat.zero_add]) (Nat.zero_add _) hp fun _ _ => rfl


end

set_option maxRecDepth 100000
set_option maxHeartbeats 4000000
local macro_rules | `(tactic| k_all) => `(tactic| assumption)
local macro_rules | `(tactic| k_mem) => `(tactic| assumption)

local macro_rules | `(tactic| walk_at "call type:enumerate") => `(tactic| k_extra "enum")
local macro_rules | `(tactic| walk_at "compareOp Is int int") => `(tactic| k_extra "isI")
local macro_rules | `(tactic| walk_at "exec For Tuple Call cons nil") => `(tactic| k_extra "forTC")
theorem c_indexOf (w : World) (mean : ExcName → Option Value) (mg mb : Str → Option Value) (news : List (Addr × Obj)) (lo : Addr) (vo : List Value) (os : List Int) (co : Nat) (x : Int) (tx : Tok)
  (hm : (lo, listOf vo.toArray co) ∈ news) (ho : IntsAre vo os) (hl : os.length ≤ 20) (hx : x ∈ os) (htx : tx ≠ 0)
  (htk : ∀ (i : Nat) (n : Int) (t : Tok), vo[i]? = some (.int n t) → t ≠ 0 ∧ smallInt n = true ∧ (n ≠ x → t ≠ tx)) :
   Cl w mean mg mb 56 news 1 [.ref lo, .int x tx] (RetI news ((os.idxOf x : Nat) : Int)) := by
  w_top off
  unfold Cl
  k_fill
  intro dp un gd cn cs a1 ccd cl outer A₀ base h₀ L m s Q E B F X N T hk hdp hu hret
  refine wpAny_call ?_
  k_dflt cell_enter
  (rename Fr _ _ _ _ => lF0)
  (have lF2 := frCong lF0 (m' := kstB (fun _ => none) [(Str.ofString "b", .int x tx), (Str.ofString "a", .ref lo)]) (fun y => lookup_kstB y _))
  clear lF0
  k_with_none
  k_with "exec While" => refine Stop.out ?_
  k_with "LpQ" => first | refine lpQ_ret ?_ | refine lpQ_next ?_ | refine lpQ_brk ?_ | refine lpQ_cont ?_
  k_with "LpPost" => first | refine lpPost_ret ?_ | refine lpPost_next ?_ | refine lpPost_brk ?_ | refine lpPost_cont ?_
  k_with "go" => repeat' (first | (k_unfold; (try dsimp only)) | walk1 | (dsimp only; walk1) | (leave1; try dsimp only))
  k_with "hr" => (intro z h2 h3; (simp only [List.forall_mem_cons, List.not_mem_nil, false_implies, implies_true, and_true, ne_eq] at h2); (simp only [List.contains_cons, List.contains_nil, Bool.or_false, Bool.or_eq_false_iff, beq_eq_false_iff_ne, ne_eq] at h3); (simp [kstB, h2, h3]; done))
  k_with "lp" => ((case hF => assumption); (case hk => kst_all); (case hN => assumption); (case hs => kstt_sub); (case hr => k_extra "hr"))
  k_with "subscriptTail Name Slice str ref" => ((with_reducible show wpAny _ _ (subscriptTail _ (Expr.Slice none (some (Expr.BoolOp _ _ _)) none _) _ _) _ _ _); (rename Fr _ _ _ _ => lF'); (rename News _ _ _ _ => lN'); (try dsimp only); (refine slice_strN_nn (hsz := ?hsz) (s := ⟨_, _, _, _, _⟩) lF' lN' ?_); (case hsz => size_fits); intro _ _ _ _ _; (try rw [slice_nn]))
  k_with "ite" => first | (refine ine_t (by omega) ?_) | (refine ine_f (by omega) ?_)
  k_with "exec For" => ((rename Fr _ _ _ _ => lF'); (with_unfolding_all refine' For_invVF lF' ?k1 ?k2 ?_; (case k1 => exact rfl); (case k2 => exact rfl); k_whole))
  k_with "pyIter ref" => refine Stop.out ?_
  k_with "isI" => refine is_ints k1 htx k3 k2 ?_
  k_with "forTC" => refine Stop.out ?_
  k_with "enum" => refine Stop.out ?_
  k_extra "go"
  (try refine Stop.mk ?_)
  (rename Fr _ _ _ _ => lF)
  (rename News _ _ _ _ => lN)
  refine' for_ret lF ?_ (by intro _; with_unfolding_all rfl) (by with_unfolding_all passes_own)
  k_extra "go"
  (try refine Stop.mk ?_)
  refine' lp_enumV [Str.ofString "i", Str.ofString "j"] (fun a => ∀ j, j < a → os[j]? ≠ some x) rfl lF lN hm ho ?hp ?turn ?done
  case hp => exact fun j hj => absurd hj (Nat.not_lt_zero _)
  case turn =>
    clear lF lN
    intro a n t tj Tp u h tk its hn hv hP hT lF lN
    obtain ⟨k1, k2, k3⟩ := htk a n tj hv
    k_extra "go"
    all_goals first
      | (rename Fr h₀ L _ _ => kF
         rename News h₀ L _ _ => kN
         rename n = x => nx
         refine retI hret (idxOf_of (nx ▸ hn) hP).symm kF kN ?_
         exact fun p hp => List.mem_append_right _ hp)
      | (rename ¬ n = x => nx
         refine' lpEx () ?hF ?hN ?hs ?hk ?hr ?hx
         (case hF => assumption)
         (case hN => assumption)
         (case hs => exact fun p hp => by rw [List.append_nil] at hp; exact hp)
         (case hk => exact fun p hp => nomatch hp)
         (case hr => k_extra "hr")
         (case hx =>
           intro j hj
           rcases Nat.lt_succ_iff_lt_or_eq.mp hj with q | q
           · exact hP j q
           · subst q; rw [hn]; exact fun e => nx (Option.some.inj e)))
  case done =>
    intro u h tk hP
    exfalso
    obtain ⟨i, hi⟩ := List.mem_iff_getElem?.mp hx
    exact hP i (List.getElem?_eq_some_iff.mp hi).1 hi
end Mine
end

section
open PySem PySem.W PySem.Calls PyProof.Rows
set_option Elab.async false
namespace Mine
set_option maxRecDepth 100000
set_option maxHeartbeats 4000000
local macro_rules | `(tactic| k_all) => `(tactic| assumption)
local macro_rules | `(tactic| k_mem) => `(tactic| assumption)
local macro_rules | `(tactic| k_ne) => `(tactic| first | assumption | exact Ne.symm (by assumption) | (refine neN ?_; (try dsimp only); first | exact Nat.ne_of_gt (by omega) | exact Nat.ne_of_lt (by omega)) | (refine neN ?_; (try dsimp only); omega))

local macro_rules | `(tactic| walk_at "call builtin:list.append") => `(tactic| ((with_reducible show wpAny _ _ (call (Value.builtin _) [Value.ref _, _]) _ _ _); k_dflt (refine' append_K ?k1 ?k2 ?k3 ?_ ?z; (case k1 => k_asm); (case k2 => k_asm); (case k3 => k_upd); (case z => k_extra "app")); intro h' F' N'; (try k_sweep)))
local macro_rules | `(tactic| walk_at "execs cons") => `(tactic| k_extra "execsT")
local macro_rules | `(tactic| walk_at "execs nil") => `(tactic| k_extra "execsN")
local macro_rules | `(tactic| walk_at "exec For Name Call cons nil") => `(tactic| k_extra "forT")
local macro_rules | `(tactic| walk_at "subscriptTail List cons Call ref int") => `(tactic| k_extra "sub1")
local macro_rules | `(tactic| walk_at "subscriptTail Name Subscript ref int") => `(tactic| k_extra "sub2")
local macro_rules | `(tactic| mul_fits) => `(tactic| ((with_reducible show PySem.IntMulOk _ _); k_extra "mulf"))
local macro_rules | `(tactic| walk_at "call builtin:str.replace") => `(tactic| k_extra "repl")
local macro_rules | `(tactic| walk_at "call ref") => `(tactic| ((with_reducible show wpAny _ _ (call (Value.ref 80) _) _ _ _); (refine wpAny_of_toks ?_); (refine' c_iseof _ _ _ _ _ _ _  _ _ _ _ _ _ _ _ _ _ _ _ _ _ _ _ _ ?chB ?chF ?chX ?chN ?chT ?chk ?chd ?chu ?_); (case chB => k_asm); (case chF => k_asm); (case chX => k_asm); (case chN => k_asm); (case chT => k_asm); (case chk => first | exact rfl | assumption); (case chd => first | ktr_room | (dsimp only; omega)); (case chu => first | ktr_units | (dsimp only; omega)); (intro h9 tk9 F9 N9 q9; try dsimp only at q9); (try dsimp only)))
local macro_rules | `(tactic| walk_at "call ref") => `(tactic| ((with_reducible show wpAny _ _ (call (Value.ref 66) _) _ _ _); (refine wpAny_of_toks ?_); (refine' c_isterm _ _ _ _ _ _ _  _ _ _ _ _ _ _ _ _ _ _ _ _ _ _ _ _ ?chB ?chF ?chX ?chN ?chT ?chk ?chd ?chu ?_); (case chB => k_asm); (case chF => k_asm); (case chX => k_asm); (case chN => k_asm); (case chT => k_asm); (case chk => first | exact rfl | assumption); (case chd => first | ktr_room | (dsimp only; omega)); (case chu => first | ktr_units | (dsimp only; omega)); (intro h9 tk9 F9 N9 q9; try dsimp only at q9); (try dsimp only)))
local macro_rules | `(tactic| walk_at "call ref") => `(tactic| ((with_reducible show wpAny _ _ (call (Value.ref 73) _) _ _ _); (refine wpAny_of_toks ?_); (refine' c_isnont _ _ _ _ _ _ _  _ _ _ _ _ _ _ _ _ _ _ _ _ _ _ _ _ ?chB ?chF ?chX ?chN ?chT ?chk ?chd ?chu ?_); (case chB => k_asm); (case chF => k_asm); (case chX => k_asm); (case chN => k_asm); (case chT => k_asm); (case chk => first | exact rfl | assumption); (case chd => first | ktr_room | (dsimp only; omega)); (case chu => first | ktr_units | (dsimp only; omega)); (intro h9 tk9 F9 N9 q9; try dsimp only at q9); (try dsimp only)))
local macro_rules | `(tactic| walk_at "call ref") => `(tactic| ((with_reducible show wpAny _ _ (call (Value.ref 56) _) _ _ _); (refine' c_indexOf _ _ _ _ _ _ _ _ _ _ _ ?hm ?ho ?hl ?hx ?htx ?htk _ _ _ _ _ _ _ _ _ _ _ _ _ _ _ _ _ ?chB ?chF ?chX ?chN ?chT ?chk ?chd ?chu ?_); (case chB => k_asm); (case chF => k_asm); (case chX => k_asm); (case chN => k_asm); (case chT => k_asm); (case chk => first | exact rfl | assumption); (case chd => first | ktr_room | (dsimp only; omega)); (case chu => first | ktr_units | (dsimp only; omega)); (case hm => k_extra "ix m"); (case ho => k_extra "ix o"); (case hl => exact Nat.le_of_ble_eq_true rfl); (case hx => k_extra "ix x"); (case htx => k_extra "ix t"); (case htk => k_extra "ix tk"); (intro t9 h9 tk9 F9 N9; k_extra "ix end"); (try dsimp only)))
theorem news_cells {h₀ h : Heap} {L a b c : Addr} {o p q : Obj} {news : List (Addr × Obj)} (_N : News h₀ L h ((a, o) :: (b, p) :: (c, q) :: news)) : ∃ p' q', p' = p ∧ q' = q := ⟨p, q, rfl, rfl⟩
noncomputable def TokB (tn tk : Nat) (vs : List Value) : Prop := ∀ (i : Nat) (n : Int) (t : Tok), vs[i]? = some (.int n t) → t ≠ 0 ∧ t < tk ∧ t ≠ tn
theorem TokB.mono {tn a b : Nat} {vs : List Value} (h : a ≤ b) (x : TokB tn a vs) : TokB tn b vs := fun i n t e => ⟨(x i n t e).1, Nat.lt_of_lt_of_le (x i n t e).2.1 h, (x i n t e).2.2⟩
theorem ix_tk {T tn tx : Nat} {num x : Int} (h0 : 0 < T) (h1 : tx < T) (h2 : tx ≠ tn) (h3 : 0 < tn) (h4 : smallInt num = true) : ∀ (i : Nat) (n : Int) (t : Tok), ((List.replicate (Int.toNat 2) [Value.int 255 T, .int 1 (T + 1), .int 0 (T + 1 + 1), .int num tn, .int 20 (T + 1 + 1 + 1), .int 21 (T + 1 + 1 + 1 + 1)]).flatten)[i]? = some (.int n t) → t ≠ 0 ∧ smallInt n = true ∧ (n ≠ x → t ≠ tx) := by
  intro i n t e
  have hm := List.mem_of_getElem? e
  have hm' : Value.int n t ∈ [Value.int 255 T, .int 1 (T + 1), .int 0 (T + 1 + 1), .int num tn, .int 20 (T + 1 + 1 + 1), .int 21 (T + 1 + 1 + 1 + 1)] := by
    obtain ⟨l, hl, hm⟩ := List.mem_flatten.mp hm
    rw [List.eq_of_mem_replicate hl] at hm
    exact hm
  simp only [List.mem_cons, Value.int.injEq, List.not_mem_nil, or_false] at hm'
  rcases hm' with ⟨rfl, rfl⟩ | ⟨rfl, rfl⟩ | ⟨rfl, rfl⟩ | ⟨rfl, rfl⟩ | ⟨rfl, rfl⟩ | ⟨rfl, rfl⟩
  · exact ⟨by exact Nat.ne_of_gt (show @LT.lt Nat _ 0 _ by omega), rfl, fun _ => by show @Ne Nat _ _; omega⟩
  · exact ⟨by exact Nat.ne_of_gt (show @LT.lt Nat _ 0 _ by omega), rfl, fun _ => by show @Ne Nat _ _; omega⟩
  · exact ⟨by exact Nat.ne_of_gt (show @LT.lt Nat _ 0 _ by omega), rfl, fun _ => by show @Ne Nat _ _; omega⟩
  · exact ⟨by exact Nat.ne_of_gt (show @LT.lt Nat _ 0 _ by omega), h4, fun _ => by show @Ne Nat _ _; omega⟩
  · exact ⟨by exact Nat.ne_of_gt (show @LT.lt Nat _ 0 _ by omega), rfl, fun _ => by show @Ne Nat _ _; omega⟩
  · exact ⟨by exact Nat.ne_of_gt (show @LT.lt Nat _ 0 _ by omega), rfl, fun _ => by show @Ne Nat _ _; omega⟩
theorem idx_six {num x : Int} (h : x ∈ itemsS num) : (itemsS num).idxOf x < 6 := by
  have e : itemsS num = [255, 1, 0, num, 20, 21] ++ [255, 1, 0, num, 20, 21] := rfl
  have h' : x ∈ ([255, 1, 0, num, 20, 21] : List Int) := by
    rw [e] at h
    exact (List.mem_append.mp h).elim id id
  rw [e, List.idxOf_append, if_pos h']
  exact List.idxOf_lt_length_of_mem h'
theorem g_six {p : Nat} (h : p < 6) : 0 ≤ ([2, 0, 3] : List Int).getD ((p : Int) / 2).toNat 0 ∧ ([2, 0, 3] : List Int).getD ((p : Int) / 2).toNat 0 < 4 := by
  have : ∀ q : Fin 6, 0 ≤ ([2, 0, 3] : List Int).getD (((q : Nat) : Int) / 2).toNat 0 ∧ ([2, 0, 3] : List Int).getD (((q : Nat) : Int) / 2).toNat 0 < 4 := by decide
  exact this ⟨p, h⟩
theorem st_six {p : Nat} (h : p < 6) : (([2, 0, 3] : List Int).getD ((p : Int).fdiv 2).toNat 0).toNat = ([2, 0, 3] : List Nat).getD (p / 2) 0 ∧ (p : Int).fmod 2 = ((p % 2 : Nat) : Int) := by
  have : ∀ q : Fin 6, (([2, 0, 3] : List Int).getD (((q : Nat) : Int).fdiv 2).toNat 0).toNat = ([2, 0, 3] : List Nat).getD ((q : Nat) / 2) 0 ∧ ((q : Nat) : Int).fmod 2 = (((q : Nat) % 2 : Nat) : Int) := by decide
  exact this ⟨p, h⟩
theorem meas {l n : Nat} (h : n < l) : l - ((n : Int) + 1).toNat < l - (n : Int).toNat := by
  rw [show ((n : Int) + 1).toNat = n + 1 from rfl, Int.toNat_natCast]
  exact Nat.sub_lt_sub_left h (Nat.lt_succ_self n)
theorem ifc_t {b : Bool} {P Q : Prop} (h : b = true) (p : P) : if b = true then P else Q := by rw [if_pos h]; exact p
theorem ifc_f {b : Bool} {P Q : Prop} (h : b = false) (q : Q) : if b = true then P else Q := by rw [h]; exact q
theorem TokB.snoc {tn tk : Nat} {vs : List Value} {n : Int} {t : Tok} (x : TokB tn tk vs) (h0 : t ≠ 0) (h1 : @LT.lt Nat _ t tk) (h2 : t ≠ tn) : TokB tn tk (vs ++ [.int n t]) := by
  intro i k u e
  rw [List.getElem?_append] at e
  split at e
  · exact x i k u e
  · cases hi : i - vs.length with
    | zero =>
      rw [hi] at e
      cases e
      exact ⟨h0, h1, h2⟩
    | succ j => rw [hi] at e; simp at e
theorem c_told (w : World) (mean : ExcName → Option Value) (mg mb : Str → Option Value) (news : List (Addr × Obj)) (lo : Addr) (vo : List Value) (no : Nat) (os : List Int) (px xl : Str) (tp tl tn : Tok) (num : Int)
   (hmo : (lo, listOf vo.toArray no) ∈ news) (ho : IntsAre vo os) (hlo : os.length = 4) (hpx : px.length ≤ 40) (us ls : List Nat) (hpx2 : (Txt.replace px (Str.ofString "&lt;") (Str.ofString "<")).length ≤ 40)
   (hus0 : (Txt.replace (Txt.replace px (Str.ofString "&lt;") (Str.ofString "<")) (Str.ofString "&gt;") (Str.ofString ">")).cps = us.toArray) (hul : us.length ≤ 10) (hxl : xl.cps = ls.toArray) (hll : ls.length = 4) (hnd : ls.Nodup)
   (hus : ∀ c ∈ us, c ∈ ls ∨ (c ∉ ls ∧ c ∈ sgTab.map (·.1))) (hxs : ∀ x ∈ us.map (symS ls), x = 256 ∨ x = 257 ∨ (0 < x ∧ x < 256 ∧ x ∈ itemsS num)) (hn0 : 0 ≤ num) (hn1 : num < 200) (htd : ∀ i, 0 ≤ (turnedS num (us.map (symS ls))).getD i 0 ∧ (turnedS num (us.map (symS ls))).getD i 0 < 2) (hor : ∀ i, i < 4 → 0 ≤ os.getD i 0 ∧ os.getD i 0 < 4) :
   Cl w mean mg mb 148 news 3 [.str px tp, .str xl tl, .int num tn, .ref lo] (fun h₀ L m s Q => 400 ≤ tn ∧ tn < s.toks ∧ RetI news (toldS num os (us.map (symS ls))) h₀ L m s Q) := by
  w_top off
  unfold Cl
  k_fill
  intro dp un gd cn cs a1 ccd cl outer A₀ base h₀ L m s Q E B F X N T hk hdp hu hret
  obtain ⟨htn1', htn2', hret⟩ := hret
  have htn1 : @LE.le Nat _ 400 tn := htn1'
  have htn2 : @LT.lt Nat _ tn s.toks := htn2'
  refine wpAny_call ?_
  k_dflt (refine' code_defCT ?k1 ?k2 ?k3 ?k4 ?k5 ?kA ?kF ?kK ?k6 ?k7 ?k8 ?k9 ?kB ?kD ?_ ?c2 ?c3 ?c4; (case kA => exact rfl); (case kF => exact rfl); (case kK => assumption); (case k1 => k_asm); (case k2 => k_asm); (case k3 => k_asm); (case k4 => k_asm); (case k5 => k_asm); (case k6 => k_is); (case k7 => k_is); (case k8 => ktr_room); (case k9 => exact BindsTo.of_eq rfl); (case kB => exact rfl); (case kD => decide +kernel); (case c2 => exact rfl); (case c3 => exact rfl); (case c4 => exact rfl); k_whole; intro g' L' h' tk' cells' hle' FG' F' N' Y' B' X' T' l1; (try k_lt l1); k_cells Y'; (try simp only [List.cons_append, List.nil_append] at N'); (try dsimp only); (try k_lift B'); (try k_fold))
  have lF : Fr g' L' h' (kstB (fun _ => none) [(Str.ofString "number", .int num tn), (Str.ofString "letters", .str xl tl), (Str.ofString "page", .str px tp)]) := F'
  clear F'
  (rename _ = Data.cell _ => hd1)
  have hdo : _ = Data.cell (some (Value.ref lo)) := hd1
  clear hd1
  (rename _ = Data.cell (bindC _ _ _ _) => hd1)
  have hdt : _ = Data.cell none := hd1
  clear hd1
  have hL1 : ∀ p ∈ news, p.1 ≠ L' + 1 := fun p hp => Nat.ne_of_lt (Nat.lt_succ_of_lt (l1 p hp))
  have hL2 : ∀ p ∈ news, p.1 ≠ L' + 1 + 1 := fun p hp => Nat.ne_of_lt (Nat.lt_succ_of_lt (Nat.lt_succ_of_lt (l1 p hp)))
  k_with_none
  k_with "exec While" => refine Stop.out ?_
  k_with "LpQ" => first | refine lpQ_ret ?_ | refine lpQ_next ?_ | refine lpQ_brk ?_ | refine lpQ_cont ?_
  k_with "LpPost" => first | refine lpPost_ret ?_ | refine lpPost_next ?_ | refine lpPost_brk ?_ | refine lpPost_cont ?_
  k_with "go" => repeat' (first | (k_unfold; (try dsimp only)) | walk1 | (dsimp only; walk1) | (leave1; try dsimp only))
  k_with "hr" => (intro z h2 h3; (simp only [List.forall_mem_cons, List.not_mem_nil, false_implies, implies_true, and_true, ne_eq] at h2); (simp only [List.contains_cons, List.contains_nil, Bool.or_false, Bool.or_eq_false_iff, beq_eq_false_iff_ne, ne_eq] at h3); (simp [kstB, h2, h3]; done))
  k_with "lp" => ((case hF => assumption); (case hk => kst_all); (case hN => assumption); (case hs => kstt_sub); (case hr => k_extra "hr"))
  k_with "subscriptTail Name Slice str ref" => ((with_reducible show wpAny _ _ (subscriptTail _ (Expr.Slice none (some (Expr.BoolOp _ _ _)) none _) _ _) _ _ _); (rename Fr _ _ _ _ => lF'); (rename News _ _ _ _ => lN'); (try dsimp only); (refine slice_strN_nn (hsz := ?hsz) (s := ⟨_, _, _, _, _⟩) lF' lN' ?_); (case hsz => size_fits); intro _ _ _ _ _; (try rw [slice_nn]))
  k_with "ite" => first | (refine ine_t (by omega) ?_) | (refine ine_f (by omega) ?_)
  k_with "exec For" => ((rename Fr _ _ _ _ => lF'); (with_unfolding_all refine' For_invVF lF' ?k1 ?k2 ?_; (case k1 => exact rfl); (case k2 => exact rfl); k_whole))
  k_with "pyIter ref" => refine Stop.out ?_
  k_with "forT" => refine Stop.out ?_
  k_with "execsT" => (k_here; refine execs_consT ?_)
  k_with "execsN" => (k_here; refine wpAny_execs_nil ?_)
  k_extra "go"
  (rename tk' ≤ _ => hle2)
  have hle3 := Nat.le_trans hle' hle2
  refine Stop.mk ?_
  (try clear lF)
  (rename Fr _ _ _ _ => lF)
  (rename News _ _ _ _ => lN)
  (rename _ ∧ _ ∧ AllLt _ _ => hAlt)
  obtain ⟨D, hD⟩ := news_head lN
  subst hD
  dsimp only at hle3
  obtain ⟨oc1, oc2, eo1, eo2⟩ := news_cells lN
  subst eo1
  subst eo2
  have hne : ∀ p ∈ news, p.1 ≠ D := fun p hp => Nat.ne_of_lt (allLt_mem hAlt.2.2 p hp)
  have hneL1 : L' + 1 ≠ D := Nat.ne_of_lt hAlt.2.1
  have hneL2 : L' + 1 + 1 ≠ D := Nat.ne_of_lt hAlt.1
  refine' for_textT (σ := (List Value × List Int) × Nat) (fun c => (D, listOf c.1.1.toArray c.2) :: (L' + 1 + 1, oc1) :: (L' + 1, oc2) :: news) (fun c => []) [Str.ofString "sign"]
    (fun i c tk => IntsAre c.1.1 c.1.2 ∧ c.1.2 = (us.take i).map (symS ls) ∧ TokB tn tk c.1.1 ∧ tn < tk) lF ?mono ?hadr ?it ?hE (by intro _; with_unfolding_all rfl)
  case mono => exact fun i c a b hab h => ⟨h.1, h.2.1, h.2.2.1.mono hab, Nat.lt_of_lt_of_le h.2.2.2 hab⟩
  case hadr => exact fun _ _ => rfl
  case hE => with_unfolding_all passes_own
  case it =>
    k_with "execsT" => fail
    k_with "execsN" => fail
    k_with "repl" => ((refine wpAny_of_toks ?_); (refine SC.replaceW (by exact Nat.ne_of_gt (show @LT.lt Nat _ 0 _ by omega)) (by exact Nat.ne_of_gt (show @LT.lt Nat _ 0 _ by omega)) (by show @Ne Nat _ _; omega) (by decide) (by omega) (by decide) ?_); intro t5 k5 h5; (try dsimp only at h5))
    k_extra "go"
    (rename tk' + 1 + 1 + 1 ≤ _ => h6)
    (rename _ ≤ k5 => h7)
    have hk5 : @LT.lt Nat _ tn k5 := by omega
    (rename Fr _ _ _ _ => lF)
    (rename News _ _ _ _ => lN)
    refine ⟨_, _, (([], []), 0), rfl, rfl, lF, lN, (fun p hp => nomatch hp), ⟨.nil, rfl, (fun i n t e => by simp at e), hk5⟩, ?turn, ?done⟩
    case turn =>
      clear lF lN
      intro i c n t u h tk own hn hP hoff lF lN
      rw [hus0] at hn
      obtain ⟨hP0, hP1, hP2, hP3⟩ := hP
      have hP3' : @LT.lt Nat _ tn tk := hP3
      have hn' : us[i]? = some n := by simpa using hn
      have hn3 : ∀ p ∈ news ++ own, p.1 ≠ D := fun p hp => (List.mem_append.mp hp).elim (hne p) (hoff.ne (List.Mem.head _) p)
      dsimp only at lN
      rw [List.cons_append, List.cons_append, List.cons_append] at lN
      k_with "LpPostT" => refine Stop.out ?_
      k_with "app" => (rw [List.size_toArray, hP0.length, hP1, List.length_map, List.length_take, sizeLine_eq]; omega)
      have hmem : n ∈ us := List.mem_of_getElem? hn'
      rcases hus n hmem with hc | ⟨hc1, hc2⟩
      ·
        have hin : (!(Builtin.Str.occurrences xl ⟨#[n]⟩ 0 xl.length 1).isEmpty) = true := by rw [found_in hxl, decide_eq_true hc]; rfl
        k_with "ite" => refine ifc_t hin ?_
        k_with "sub1" => refine Stop.out ?_
        k_extra "go"
        all_goals (try refine Stop.mk ?_)
        all_goals try (exfalso; (rename Txt.find _ _ = -1 => he); rw [find_at hxl hc] at he; omega)
        have hidx : ls.idxOf n < 4 := hll ▸ List.idxOf_lt_length_of_mem hc
        have hval : ∃ t0 : Tok, ([Value.int 255 (tk + 1), Value.int 256 (tk + 1 + 1), Value.int 1 (tk + 1 + 1 + 1), Value.int 257 (tk + 1 + 1 + 1 + 1)] : List Value)[ls.idxOf n]? = some (.int (symS ls n) t0) ∧ @LT.lt Nat _ tk t0 ∧ @LT.lt Nat _ t0 (tk + 6) := by
          unfold symS
          rw [if_pos hc]
          generalize ls.idxOf n = q at hidx
          match q, hidx with
          | 0, _ => exact ⟨_, rfl, by omega, by omega⟩
          | 1, _ => exact ⟨_, rfl, by omega, by omega⟩
          | 2, _ => exact ⟨_, rfl, by omega, by omega⟩
          | 3, _ => exact ⟨_, rfl, by omega, by omega⟩
        obtain ⟨t0, hv0, hv1, hv2⟩ := hval
        dsimp only
        (rename News _ _ _ _ => lN')
        refine' item_listR (x := .int (symS ls n) t0) (lN'.isList (.head _)) ?i0 ?i1 ?i2 ?_ ?iS
        case i0 => rw [find_at hxl hc]; omega
        case i1 => rw [find_at hxl hc]; omega
        case i2 => rw [find_at hxl hc]; simpa using hv0
        case iS => with_unfolding_all rfl
        k_extra "go"
        refine Stop.mk (lpPostT_next ?_)
        (rename Fr _ _ _ _ => lF2)
        (rename News _ _ _ _ => lN2)
        rw [List.push_toArray] at lN2
        refine' lpExT ((c.1.1 ++ [.int (symS ls n) t0], c.1.2 ++ [symS ls n]), c.2 + 1) lF2 lN2 ?hs ?hk ?hr ?hx
        case hs => kstt_sub
        case hk => exact fun p hp => nomatch hp
        case hr => k_extra "hr"
        case hx =>
          refine ⟨hP0.append (.cons _ _ .nil), ?_, ?_, ?_⟩
          · rw [hP1, List.take_add_one, hn']; simp
          · refine TokB.snoc (hP2.mono (Nat.le_add_right tk 6)) ?_ ?_ ?_
            · exact Nat.ne_of_gt (show @LT.lt Nat _ 0 t0 by omega)
            · exact hv2
            · exact Nat.ne_of_gt (show @LT.lt Nat _ tn t0 by omega)
          · exact Nat.lt_of_lt_of_le hP3 (Nat.le_add_right tk 6)
      · have hin : (!(Builtin.Str.occurrences xl ⟨#[n]⟩ 0 xl.length 1).isEmpty) = false := by rw [found_in hxl, decide_eq_false hc1]; rfl
        k_with "ite" => refine ifc_f hin ?_
        k_extra "go"
        obtain ⟨t0, hv0, hv1, hv2⟩ := ns57 w.params n hc2
        refine' topItem_K ?tF ?tX ?tl ?tk hv0 ?_
        (case tF => k_asm)
        (case tX => k_asm)
        (case tl => k_is)
        (case tk => k_keys)
        k_extra "go"
        refine Stop.mk (lpPostT_next ?_)
        (rename Fr _ _ _ _ => lF2)
        (rename News _ _ _ _ => lN2)
        rw [List.push_toArray] at lN2
        refine' lpExT ((c.1.1 ++ [.int (sgn n) t0], c.1.2 ++ [sgn n]), c.2 + 1) lF2 lN2 ?hs ?hk ?hr ?hx
        case hs => kstt_sub
        case hk => exact fun p hp => nomatch hp
        case hr => k_extra "hr"
        case hx =>
          refine ⟨hP0.append (.cons _ _ .nil), ?_, ?_, ?_⟩
          · rw [hP1, List.take_add_one, hn']; simp [symS, hc1]
          · have hv2' : @LT.lt Nat _ t0 358 := hv2
            refine TokB.snoc (hP2.mono (Nat.le_add_right tk 2)) hv1 ?_ ?_
            · show @LT.lt Nat _ t0 (tk + 2); omega
            · exact Nat.ne_of_lt (show @LT.lt Nat _ t0 tn by omega)
          · exact Nat.lt_of_lt_of_le hP3 (Nat.le_add_right tk 2)
    case done =>
      clear lF lN
      intro c u h tk hP lF lN
      obtain ⟨hP0, hP1, hP2, hP3⟩ := hP
      rw [hus0, List.size_toArray, List.take_length] at hP1
      have hl0 : c.1.1.length ≤ 10 := by rw [hP0.length, hP1, List.length_map]; exact hul
      k_with "app" => (rw [List.size_toArray, sizeLine_eq]; omega)
      k_extra "go"
      refine Stop.mk ?_
      (try clear lF)
      (try clear lN)
      (rename Fr _ _ _ _ => lF)
      (rename News _ _ _ _ => lN)
      (rename _ ∧ _ ∧ _ ∧ AllLt _ _ => hAlt4)
      (rename _ = Data.cell (some (Value.ref _)) => hdt4)
      obtain ⟨Dt, hDt⟩ := news_head lN
      subst hDt
      have hne4 : ∀ p ∈ news, p.1 ≠ Dt := fun p hp => Nat.ne_of_lt (allLt_mem hAlt4.2.2.2 p hp)
      have hneL14 : L' + 1 ≠ Dt := Nat.ne_of_lt hAlt4.2.2.1
      have hneL24 : L' + 1 + 1 ≠ Dt := Nat.ne_of_lt hAlt4.2.1
      have hneD4 : D ≠ Dt := Nat.ne_of_lt hAlt4.1
      obtain ⟨ob, hob⟩ : ∃ o : Obj, o.data = Data.cell (some (Value.ref Dt)) := ⟨_, hdt4⟩
      generalize hxsd : us.map (symS ls) = xs at hP1 hxs hret htd
      rw [List.push_toArray] at lN
      have hlx : xs.length ≤ 10 := by rw [← hxsd, List.length_map]; exact hul
      have hi4 : IntsAre (c.1.1 ++ [.int 0 tk]) (xs ++ [0]) := hP1 ▸ hP0.append (.cons _ _ .nil)
      have hvl : c.1.1.length = xs.length := by rw [hP0.length, hP1]
      refine' lp_whileT (σ := (List Value × List Int) × (Nat × (Int × Tok))) (fun c4 => (Dt, listOf c4.1.1.toArray c4.2.1) :: (D, listOf (c.1.1 ++ [Value.int 0 tk]).toArray (c.2 + 1)) :: (L' + 1 + 1, _) :: (L' + 1, oc2) :: news) (fun c4 => [(Str.ofString "at", .int c4.2.2.1 c4.2.2.2)]) [Str.ofString "place"]
        (fun c4 => IntsAre c4.1.1 c4.1.2 ∧ c4.1.2.length = 4 ∧ ∃ k : Nat, c4.2.2.1 = (k : Int) ∧ k ≤ xs.length ∧ (xs.drop k).foldl (stepS num) c4.1.2 = turnedS num xs) (fun c4 => xs.length - c4.2.2.1.toNat) (([_, _, _, _], [0, 0, 0, 0]), (_, (0, _))) lF lN ?hk5 ⟨.cons _ _ (.cons _ _ (.cons _ _ (.cons _ _ .nil))), rfl, 0, rfl, Nat.zero_le _, rfl⟩ ?hE5 ?turn5
      (case hk5 => kst_all)
      (case hE5 => with_unfolding_all passes_own)
      clear lF lN
      intro c5 u5 h5 tk5 hle5 hP5 lF lN
      obtain ⟨⟨tv5, ti5⟩, cn5, av5, at5⟩ := c5
      obtain ⟨hR0, hR1, n5, hR2, hR3, hR4⟩ := hP5
      (try dsimp only); k_fold
      dsimp only at hR0 hR1 hR2 hR4
      subst hR2
      dsimp only at lF lN
      have hT5 := hle5
      dsimp only at hT5
      have hP3' : @LT.lt Nat _ tn tk := hP3
      have hT6 : TokB tn tk5 (c.1.1 ++ [Value.int 0 tk]) := by
        refine TokB.snoc (hP2.mono (show @LE.le Nat _ tk tk5 by omega)) ?_ ?_ ?_
        · exact Nat.ne_of_gt (show @LT.lt Nat _ 0 tk by omega)
        · show @LT.lt Nat _ tk tk5; omega
        · exact Nat.ne_of_gt (show @LT.lt Nat _ tn tk by omega)
      rcases Nat.lt_or_ge n5 xs.length with hlt5 | hge5
      · obtain ⟨x5, hx5⟩ : ∃ x, xs[n5]? = some x := ⟨_, List.getElem?_eq_getElem hlt5⟩
        obtain ⟨tx5, hv5⟩ : ∃ t, (c.1.1 ++ [Value.int 0 tk])[n5]? = some (.int x5 t) := by
          have hlv : n5 < (c.1.1 ++ [Value.int 0 tk]).length := by rw [List.length_append, hvl]; omega
          obtain ⟨y, t, e, hy⟩ := IntsAre.at hi4 n5 _ (List.getElem?_eq_getElem hlv)
          rw [List.getElem?_append_left hlt5, hx5] at hy
          cases hy
          exact ⟨t, by rw [List.getElem?_eq_getElem hlv, e]⟩
        have hB5 := hT6 _ _ _ hv5
        have hX5 := hxs x5 (List.mem_of_getElem? hx5)
        clear hi4
        have hdr : xs.drop n5 = x5 :: xs.drop (n5 + 1) := by
          have e := List.drop_eq_getElem_cons hlt5
          rw [List.getElem?_eq_getElem hlt5] at hx5
          rw [e, Option.some.inj hx5]
        rw [hdr, List.foldl_cons] at hR4
        k_with "subscriptTail Name Name ref int" => ((try dsimp only); (refine' item_listR (x := .int x5 tx5) ?siL ?si0 ?si1 ?si2 ?_ ?siS); (case siL => exact News.isList (by assumption) (by first | exact List.mem_cons_of_mem _ List.mem_cons_self | exact List.mem_cons_of_mem _ (List.mem_cons_of_mem _ List.mem_cons_self) | exact List.mem_cons_of_mem _ (List.mem_cons_of_mem _ (List.mem_cons_of_mem _ List.mem_cons_self)))); (case si0 => omega); (case si1 => omega); (case si2 => (rw [Int.toNat_natCast]; simpa using hv5)); (case siS => with_unfolding_all rfl))
        have e1 : (!(x5 == 0)) = true := by
          have : x5 ≠ 0 := by omega
          simp [this]
        have e2 : (decide (x5 < 256) == decide (x5 ≥ 256)) = false := by
          rcases Int.lt_or_le x5 256 with q | q
          · rw [decide_eq_true q, decide_eq_false (by omega)]; rfl
          · rw [decide_eq_false (by omega), decide_eq_true (by omega)]; rfl
        rcases Int.lt_or_le x5 256 with q5 | q5
        · have e3 : decide (x5 ≥ 256) = false := decide_eq_false (by omega)
          k_with "ite" => first | with_reducible refine ifc_t e1 ?_ | with_reducible refine ifc_f e2 ?_ | with_reducible refine ifc_f e3 ?_
          have hX6 : x5 ∈ itemsS num := by
            rcases hX5 with h | h | h
            · omega
            · omega
            · exact h.2.2
          have hB6 : @LT.lt Nat _ tx5 tk5 := hB5.2.1
          have hsm : smallInt num = true := by unfold smallInt; simp; omega
          have hp5 : ((List.replicate (Int.toNat 2) [255, 1, 0, num, 20, 21]).flatten).idxOf x5 < 6 := idx_six hX6
          generalize hpq : ((List.replicate (Int.toNat 2) [255, 1, 0, num, 20, 21]).flatten).idxOf x5 = p5 at hp5
          k_with "ix m" => exact .head _
          k_with "ix o" => assumption
          k_with "ix x" => exact hX6
          k_with "ix t" => exact hB5.1
          k_with "ix tk" => exact ix_tk (by omega) (by omega) hB5.2.2 (by omega) hsm
          k_with "ix end" => (rw [hpq])
          have hg5 : 0 ≤ ([2, 0, 3] : List Int).getD ((p5 : Int) / 2).toNat 0 ∧ ([2, 0, 3] : List Int).getD ((p5 : Int) / 2).toNat 0 < 4 := g_six hp5
          k_extra "go"
          rename IntsAre (List.set tv5 _ _) _ => hi9
          refine' lpExI (τ := Nat × (Int × Tok)) hi9 (cn5, (_, _)) ?hF ?hN ?hs ?hk ?hr ?hx
          (case hF => assumption)
          (case hk => kst_all)
          (case hN => assumption)
          (case hs => exact fun p hp => by rw [List.append_nil] at hp; exact .tail _ (.tail _ (.tail _ hp)))
          (case hr => k_extra "hr")
          case hx =>
            have hpq' : (itemsS num).idxOf x5 = p5 := hpq
            have hst := st_six hp5
            refine ⟨⟨hi9, ?_, n5 + 1, ?_, hlt5, ?_⟩, ?_⟩
            · rw [List.length_set]; exact hR1
            · dsimp only; omega
            · rw [← hR4, stepS, if_neg (by omega)]
              dsimp only
              rw [hpq', hst.1, hst.2]
            · exact meas hlt5
        · have e3 : decide (x5 ≥ 256) = true := decide_eq_true (by omega)
          k_with "ite" => first | with_reducible refine ifc_t e1 ?_ | with_reducible refine ifc_f e2 ?_ | with_reducible refine ifc_t e3 ?_
          k_extra "go"
          rename IntsAre (List.set (List.set _ _ _) _ _) _ => hi9
          refine' lpExI (τ := Nat × (Int × Tok)) hi9 (cn5, (_, _)) ?hF ?hN ?hs ?hk ?hr ?hx
          (case hF => assumption)
          (case hk => kst_all)
          (case hN => assumption)
          (case hs => exact fun p hp => by rw [List.append_nil] at hp; exact hp)
          (case hr => k_extra "hr")
          case hx =>
            refine ⟨⟨hi9, ?_, n5 + 1, ?_, hlt5, ?_⟩, ?_⟩
            · rw [List.length_set, List.length_set]; exact hR1
            · dsimp only; omega
            · rw [← hR4, stepS, if_pos q5]; rfl
            · exact meas hlt5
      · have hn5 : n5 = xs.length := by omega
        subst hn5
        rw [List.drop_length, List.foldl_nil] at hR4
        have hv5 : (c.1.1 ++ [Value.int 0 tk])[xs.length]? = some (.int 0 tk) := by rw [← hvl]; simp
        clear hi4
        k_with "subscriptTail Name Name ref int" => ((try dsimp only); (refine' item_listR (x := .int 0 tk) ?siL ?si0 ?si1 ?si2 ?_ ?siS); (case siL => exact News.isList (by assumption) (List.mem_cons_of_mem _ List.mem_cons_self)); (case si0 => omega); (case si1 => omega); (case si2 => (rw [Int.toNat_natCast]; simpa using hv5)); (case siS => with_unfolding_all rfl))
        k_with "ite" => with_reducible refine ifc_f (b := !((0 : Int) == 0)) rfl ?_
        have hor2 : ∀ k : Int, 0 ≤ k → k < 0 + ((4 - 0 : Int).toNat : Int) → 0 ≤ os.getD k.toNat 0 ∧ os.getD k.toNat 0 < 4 := fun k h0 h1 => hor k.toNat (by omega)
        have htd5 : ∀ i, 0 ≤ ti5.getD i 0 ∧ ti5.getD i 0 < 2 := fun i => by rw [hR4]; exact htd i
        have hfour : ((4 : Int) - 0).toNat = 4 := rfl
        k_with "mulf" => exact PySem.IntMulOk.of_left (PySem.intBits_le_64 (Int.le_trans (by decide) (htd5 _).1) (Int.lt_trans (htd5 _).2 (by decide)))
        k_with "sub2" => (refine' item_list_intsR ?k1 hR0 ?k3 ?k4 ?k5 ?_; (case k1 => is_list); (case k3 => exact (hor2 _ (by assumption) (by assumption)).1); (case k4 => (rw [hR1]; exact (hor2 _ (by assumption) (by assumption)).2)); (case k5 => (have hb2 := (hor2 _ (by assumption) (by assumption)).2; omega)); intro _)
        k_extra "go"
        exact retI hret (by unfold toldS; rw [← hR4]; rfl) (by assumption) (by assumption) (fun p hp => .tail _ (.tail _ (.tail _ (.tail _ (.tail _ hp)))))
end Mine
end

section
open PySem PySem.W PySem.Calls PyProof.Rows
set_option Elab.async false
namespace Mine
local macro_rules | `(tactic| omega) => `(tactic| first | decide | lia)
set_option maxRecDepth 100000
set_option maxHeartbeats 4000000
local macro_rules | `(tactic| k_all) => `(tactic| assumption)
local macro_rules | `(tactic| k_mem) => `(tactic| assumption)

noncomputable def turnN (row : Int) (os : List Int) : Nat → List Int
  | 0 => [0, 0, 0, 0]
  | k + 1 => (turnN row os k).set (os.getD k 0).toNat (Int.fmod (Int.fdiv row (2 ^ k)) 2)

theorem turnN_len (row : Int) (os : List Int) : ∀ k, (turnN row os k).length = 4
  | 0 => rfl
  | k + 1 => by rw [turnN, List.length_set]; exact turnN_len row os k
theorem c_turn (w : World) (mean : ExcName → Option Value) (mg mb : Str → Option Value) (news : List (Addr × Obj)) (row : Int) (tr : Tok) (lo : Addr) (vo : List Value) (os : List Int) (co : Nat)
   (hm : (lo, listOf vo.toArray co) ∈ news) (ho : IntsAre vo os) (hl : os.length = 4) (hb : ∀ i, i < 4 → 0 ≤ os.getD i 0 ∧ os.getD i 0 < 4) (h0 : 0 ≤ row) (h1 : row < 16) :
   Cl w mean mg mb 136 news 1 [.int row tr, .ref lo] (RetL news fun ns => ns = turnN row os 4) := by
  w_top off
  unfold Cl
  k_fill
  intro dp un gd cn cs a1 ccd cl outer A₀ base h₀ L m s Q E B F X N T hk hd hu hret
  refine wpAny_call ?_
  k_dflt cell_enter
  (rename Fr _ _ _ _ => lF)
  (have lF2 := frCong lF (m' := kstB (fun _ => none) [(Str.ofString "order", .ref lo), (Str.ofString "row", .int row tr)]) (fun y => lookup_kstB y _))
  clear lF
  k_with_none
  k_with "exec While" => refine Stop.out ?_
  k_with "LpQ" => first | refine lpQ_ret ?_ | refine lpQ_next ?_ | refine lpQ_brk ?_ | refine lpQ_cont ?_
  k_with "LpPost" => first | refine lpPost_ret ?_ | refine lpPost_next ?_ | refine lpPost_brk ?_ | refine lpPost_cont ?_
  k_with "go" => repeat' (first | (k_unfold; (try dsimp only)) | walk1 | (dsimp only; walk1) | (leave1; try dsimp only))
  k_with "hr" => (intro z h2 h3; (simp only [List.forall_mem_cons, List.not_mem_nil, false_implies, implies_true, and_true, ne_eq] at h2); (simp only [List.contains_cons, List.contains_nil, Bool.or_false, Bool.or_eq_false_iff, beq_eq_false_iff_ne, ne_eq] at h3); (simp [kstB, h2, h3]; done))
  k_with "lp" => ((case hF => assumption); (case hk => kst_all); (case hN => assumption); (case hs => kstt_sub); (case hr => k_extra "hr"))
  k_with "subscriptTail Name Slice str ref" => ((with_reducible show wpAny _ _ (subscriptTail _ (Expr.Slice none (some (Expr.BoolOp _ _ _)) none _) _ _) _ _ _); (rename Fr _ _ _ _ => lF'); (rename News _ _ _ _ => lN'); (try dsimp only); (refine slice_strN_nn (hsz := ?hsz) (s := ⟨_, _, _, _, _⟩) lF' lN' ?_); (case hsz => size_fits); intro _ _ _ _ _; (try rw [slice_nn]))
  k_with "ite" => first | (refine ine_t (by omega) ?_) | (refine ine_f (by omega) ?_)
  k_with "exec For" => ((rename Fr _ _ _ _ => lF'); (with_unfolding_all refine' For_invVF lF' ?k1 ?k2 ?_; (case k1 => exact rfl); (case k2 => exact rfl); k_whole))
  k_with "pyIter ref" => refine Stop.out ?_
  k_extra "go"
  refine Stop.mk ?_
  (rename IsRange _ _ _ _ _ _ _ _ => rgX)
  (rename Fr _ _ _ _ => lF)
  (rename News _ _ _ _ => lN)
  (rename ∀ p ∈ news, p.1 < _ => hlt)
  have hne : ∀ p ∈ news, p.1 ≠ _ := fun p hp => Nat.ne_of_lt (hlt p hp)
  refine' lp_range (σ := (List Value × List Int) × Unit) 4 (fun c => (_, listOf c.1.1.toArray _) :: news) (fun c => []) [Str.ofString "k"]
    (fun i c => IntsAre c.1.1 c.1.2 ∧ c.1.2 = turnN row os i) (([_, _, _, _], [0, 0, 0, 0]), ()) rfl rgX (small_one (by omega) (by omega) (by omega) (by omega)) (by rw [rangeSize_nat]; rfl) lF lN ?hk3 ?hp3 ?ha3 ?turn3 ?done3
  (case hk3 => kst_all)
  (case hp3 => exact ⟨.cons _ _ (.cons _ _ (.cons _ _ (.cons _ _ .nil))), rfl⟩)
  (case ha3 => exact fun _ => rfl)
  case turn3 =>
    clear lF lN rgX; intro c3 i ti u3 h3 tk3 own3 hi hoff hP lF lN; (try dsimp only)
    obtain ⟨hP0, hP1⟩ := hP
    have hn3 : ∀ p ∈ news ++ own3, p.1 ≠ _ := fun p hp => (List.mem_append.mp hp).elim (hne p) (hoff.ne (List.Mem.head _) p)
    have hm3 : (lo, listOf vo.toArray co) ∈ news ++ own3 := List.mem_append_left _ hm
    have hlen : c3.1.2.length = 4 := by rw [hP1]; exact turnN_len _ _ _
    have ei : (0 + (i : Int)).toNat = i := by omega
    have hbi : 0 ≤ os.getD (0 + (i : Int)).toNat 0 ∧ os.getD (0 + (i : Int)).toNat 0 < 4 := by rw [ei]; exact hb i hi
    rw [List.cons_append] at lN
    k_extra "go"
    rename IntsAre (List.set _ _ _) _ => hi9
    refine' lpExI (τ := Unit) hi9 () ?hF ?hN ?hs ?hk ?hr ?hx
    (case hF => assumption)
    (case hk => kst_all)
    (case hx => exact ⟨hi9, by rw [ei, hP1]; rfl⟩)
    (case hN => assumption)
    (case hs => exact fun p hp => hp)
    (case hr => k_extra "hr")
  clear lF lN rgX
  intro c3 u3 h3 tk3 hP lF lN; (try dsimp only)
  obtain ⟨hP0, hP1⟩ := hP
  k_extra "go"
  exact retL hret hP1 hP0 hne (by assumption) (by assumption) (List.Mem.head _) (fun p hp => .tail _ hp)
end Mine
end

section
open PySem PySem.W PySem.Calls PyProof.Rows
set_option Elab.async false
namespace Mine
local macro_rules | `(tactic| omega) => `(tactic| first | decide | lia)
set_option maxRecDepth 100000
set_option maxHeartbeats 4000000
local macro_rules | `(tactic| k_all) => `(tactic| assumption)
local macro_rules | `(tactic| k_mem) => `(tactic| assumption)

noncomputable def Four (ns : List Int) : Prop := ns.length = 4 ∧ ∀ x ∈ ns, 0 ≤ x
theorem four_set {ns : List Int} (h : Four ns) (i : Nat) {x : Int} (hx : 0 ≤ x) : Four (ns.set i x) :=
  ⟨(List.length_set ..).trans h.1, fun y hy => (List.mem_or_eq_of_mem_set hy).elim (h.2 y) (fun e => e ▸ hx)⟩
theorem four_get {ns : List Int} (h : Four ns) (i : Nat) : 0 ≤ ns.getD i 0 := by
  rw [List.getD_eq_getElem?_getD]
  cases e : ns[i]? with
  | none => exact Int.le_refl 0
  | some x => exact h.2 x (List.mem_of_getElem? e)

theorem four_start : Four [5, 7, 0, 0] := ⟨by decide, by decide⟩
theorem c_cells (w : World) (mean : ExcName → Option Value) (mg mb : Str → Option Value) (news : List (Addr × Obj)) (lo : Addr) (vo : List Value) (os : List Int)
   (ho : IntsAre vo os) (hl : os.length ≤ 63) :
   Cl w mean mg mb 129 news 1 [.ref lo] (fun h₀ L m s Q => h₀.IsList lo vo.toArray ∧ RetL news Four h₀ L m s Q) := by
  w_top off
  unfold Cl
  k_fill
  intro dp un gd cn cs a1 ccd cl outer A₀ base h₀ L m s Q E B F X N T hk hd hu hC
  obtain ⟨hLo, hret⟩ := hC
  refine wpAny_call ?_
  k_dflt cell_enter
  (rename Fr h₀ L _ m => lFG)
  have hLo2 := hLo.at fun o e => lFG.keep lo o e
  (rename Fr _ _ _ _ => lF)
  (have lF2 := frCong lF (m' := kstB (fun _ => none) [(Str.ofString "script", .ref lo)]) (fun y => lookup_kstB y _))
  clear lF
  k_with_none
  k_with "exec While" => refine Stop.out ?_
  k_with "LpQ" => first | refine lpQ_ret ?_ | refine lpQ_next ?_ | refine lpQ_brk ?_ | refine lpQ_cont ?_
  k_with "LpPost" => first | refine lpPost_ret ?_ | refine lpPost_next ?_ | refine lpPost_brk ?_ | refine lpPost_cont ?_
  k_with "go" => repeat' (first | (k_unfold; (try dsimp only)) | walk1 | (dsimp only; walk1) | (leave1; try dsimp only))
  k_with "hr" => (intro z h2 h3; (simp only [List.forall_mem_cons, List.not_mem_nil, false_implies, implies_true, and_true, ne_eq] at h2); (simp only [List.contains_cons, List.contains_nil, Bool.or_false, Bool.or_eq_false_iff, beq_eq_false_iff_ne, ne_eq] at h3); (simp [kstB, h2, h3]; done))
  k_with "lp" => ((case hF => assumption); (case hk => kst_all); (case hN => assumption); (case hs => kstt_sub); (case hr => k_extra "hr"))
  k_with "subscriptTail Name Slice str ref" => ((with_reducible show wpAny _ _ (subscriptTail _ (Expr.Slice none (some (Expr.BoolOp _ _ _)) none _) _ _) _ _ _); (rename Fr _ _ _ _ => lF'); (rename News _ _ _ _ => lN'); (try dsimp only); (refine slice_strN_nn (hsz := ?hsz) (s := ⟨_, _, _, _, _⟩) lF' lN' ?_); (case hsz => size_fits); intro _ _ _ _ _; (try rw [slice_nn]))
  k_with "ite" => first | (refine ine_t (by omega) ?_) | (refine ine_f (by omega) ?_)
  k_with "exec For" => ((rename Fr _ _ _ _ => lF'); (with_unfolding_all refine' For_invVF lF' ?k1 ?k2 ?_; (case k1 => exact rfl); (case k2 => exact rfl); k_whole))
  k_with "pyIter ref" => refine Stop.out ?_
  k_extra "go"
  refine Stop.mk ?_
  (rename IsRange _ _ _ _ _ _ _ _ => rgX)
  (rename Fr _ _ _ _ => lF)
  (rename News _ _ _ _ => lN)
  (rename ∀ p ∈ news, p.1 < _ => hlt)
  have hne : ∀ p ∈ news, p.1 ≠ _ := fun p hp => Nat.ne_of_lt (hlt p hp)
  refine' lp_range (σ := (List Value × List Int) × Unit) os.length (fun c => (_, listOf c.1.1.toArray _) :: news) (fun c => []) [Str.ofString "k"]
    (fun i c => IntsAre c.1.1 c.1.2 ∧ Four c.1.2) (([_, _, _, _], [5, 7, 0, 0]), ()) rfl rgX (small_one (by omega) (by omega) (by omega) (by omega)) (by rw [rangeSize_nat]; omega) lF lN ?hk3 ?hp3 ?ha3 ?turn3 ?done3
  (case hk3 => kst_all)
  (case hp3 => exact ⟨.cons _ _ (.cons _ _ (.cons _ _ (.cons _ _ .nil))), four_start⟩)
  (case ha3 => exact fun _ => rfl)
  case turn3 =>
    clear lF lN rgX; intro c3 i ti u3 h3 tk3 own3 hi hoff hP lF lN; (try dsimp only)
    obtain ⟨hP0, hP1⟩ := hP
    have hn3 : ∀ p ∈ news ++ own3, p.1 ≠ _ := fun p hp => (List.mem_append.mp hp).elim (hne p) (hoff.ne (List.Mem.head _) p)
    have hlen : c3.1.2.length = 4 := hP1.1
    have hpos := four_get hP1 (Int.fmod (0 + (i : Int)) 4).toNat
    rw [List.cons_append] at lN
    k_extra "go"
    rename IntsAre (List.set _ _ _) _ => hi9
    have hv : 0 ≤ c3.1.2.getD (Int.fmod (0 + (i : Int)) 4).toNat 0 + Int.fmod (os.getD (0 + (i : Int)).toNat 0) 1000000 := by
      have := fmod_lo (os.getD (0 + (i : Int)).toNat 0) (n := 1000000) (by decide)
      omega
    refine' lpExI (τ := Unit) hi9 () ?hF ?hN ?hs ?hk ?hr ?hx
    (case hF => assumption)
    (case hk => kst_all)
    (case hx => exact ⟨hi9, four_set hP1 _ hv⟩)
    (case hN => assumption)
    (case hs => exact fun p hp => hp)
    (case hr => k_extra "hr")
  clear lF lN rgX
  intro c3 u3 h3 tk3 hP lF lN; (try dsimp only)
  obtain ⟨hP0, hP1⟩ := hP
  k_extra "go"
  exact retL hret hP1 hP0 hne (by assumption) (by assumption) (List.Mem.head _) (fun p hp => .tail _ hp)
end Mine
end

section
open PySem PySem.W PySem.Calls PyProof.Rows
set_option Elab.async false
namespace Mine
local macro_rules | `(tactic| omega) => `(tactic| first | decide | lia)
set_option maxRecDepth 100000
set_option maxHeartbeats 4000000
local macro_rules | `(tactic| k_all) => `(tactic| assumption)
local macro_rules | `(tactic| k_mem) => `(tactic| assumption)

local macro_rules | `(tactic| walk_at "call builtin:list.append") => `(tactic| ((with_reducible show wpAny _ _ (call (Value.builtin _) [Value.ref _, _]) _ _ _); k_dflt (refine' append_K ?k1 ?k2 ?k3 ?_ ?z; (case k1 => k_asm); (case k2 => k_asm); (case k3 => k_upd); (case z => k_extra "app")); intro h' F' N'; (try k_sweep)))
local macro_rules | `(tactic| walk_at "CompSrc") => `(tactic| k_extra "stopsrc")
local macro_rules | `(tactic| walk_at "call builtin:list.extend") => `(tactic| k_extra "extend")
local macro_rules | `(tactic| walk_at "call ref") => `(tactic| ((with_reducible show wpAny _ _ (call (Value.ref 49) _) _ _ _); (refine' c_contains _ _ _ _ _ _ _ _ _ _ _ ?cha ?chb _ _ _ _ _ _ _ _ _ _ _ _ _ _ _ _ _ ?chB ?chF ?chX ?chN ?chT ?chk ?chd ?chu ?_); (case chB => k_asm); (case chF => k_asm); (case chX => k_asm); (case chN => k_asm); (case chT => k_asm); (case chk => first | exact rfl | assumption); (case chd => first | ktr_room | (dsimp only; omega)); (case chu => first | ktr_units | (dsimp only; omega)); (case cha => k_mem); (case chb => assumption); intro h9 tk9 F9 N9; (try dsimp only)))
local macro_rules | `(tactic| walk_at "call ref") => `(tactic| ((with_reducible show wpAny _ _ (call (Value.ref 42) _) _ _ _); (refine' c_xor _ _ _ _ _ _ _ _ _  _ _ _ _ _ _ _ _ _ _ _ _ _ _ _ _ _ ?chB ?chF ?chX ?chN ?chT ?chk ?chd ?chu ?_); (case chB => k_asm); (case chF => k_asm); (case chX => k_asm); (case chN => k_asm); (case chT => k_asm); (case chk => first | exact rfl | assumption); (case chd => first | ktr_room | (dsimp only; omega)); (case chu => first | ktr_units | (dsimp only; omega)); intro t9 h9 tk9 F9 N9; (try dsimp only)))
theorem c_sums (w : World) (mean : ExcName → Option Value) (mg mb : Str → Option Value) (news : List (Addr × Obj)) (lq : Addr) (vq : List Value) (nq : Nat) (qs : List Int) (wish : Int) (tw : Tok)
   (hmq : (lq, listOf vq.toArray nq) ∈ news) (hq : IntsAre vq qs) (hlq : qs.length = 16) :
   Cl w mean mg mb 153 news 3 [.ref lq, .int wish tw] (RetL news fun ns => ns = sumsS qs wish 4) := by
  w_top off
  unfold Cl
  k_fill
  intro dp un gd cn cs a1 ccd cl outer A₀ base h₀ L m s Q E B F X N T hk hdp hu hret
  refine wpAny_call ?_
  k_dflt (refine' code_defC ?k1 ?k2 ?k3 ?k4 ?k5 ?kA ?kF ?kK ?k6 ?k7 ?k8 ?k9 ?kB ?kD ?_ ?c2 ?c3 ?c4; (case kA => exact rfl); (case kF => exact rfl); (case kK => assumption); (case k1 => k_asm); (case k2 => k_asm); (case k3 => k_asm); (case k4 => k_asm); (case k5 => k_asm); (case k6 => k_is); (case k7 => k_is); (case k8 => ktr_room); (case k9 => exact BindsTo.of_eq rfl); (case kB => exact rfl); (case kD => decide +kernel); (case c2 => exact rfl); (case c3 => exact rfl); (case c4 => exact rfl); k_whole; intro g' L' h' tk' cells' FG' F' N' Y' B' X' T' l1; (try k_lt l1); k_cells Y'; (try simp only [List.cons_append, List.nil_append] at N'); (try dsimp only); (try k_lift B'); (try k_fold))
  have lF : Fr g' L' h' (kstB (fun _ => none) [(Str.ofString "wish", .int wish tw), (Str.ofString "prices", .ref lq)]) := F'
  (rename _ = Data.cell _ => hd1)
  have hdc : _ = Data.cell none := hd1
  clear F' hd1
  have hL1 : ∀ p ∈ news, p.1 ≠ L' + 1 := fun p hp => Nat.ne_of_lt (Nat.lt_succ_of_lt (l1 p hp))
  k_with_none
  k_with "exec While" => refine Stop.out ?_
  k_with "LpQ" => first | refine lpQ_ret ?_ | refine lpQ_next ?_ | refine lpQ_brk ?_ | refine lpQ_cont ?_
  k_with "LpPost" => first | refine lpPost_ret ?_ | refine lpPost_next ?_ | refine lpPost_brk ?_ | refine lpPost_cont ?_
  k_with "go" => repeat' (first | (k_unfold; (try dsimp only)) | walk1 | (dsimp only; walk1) | (leave1; try dsimp only))
  k_with "hr" => (intro z h2 h3; (simp only [List.forall_mem_cons, List.not_mem_nil, false_implies, implies_true, and_true, ne_eq] at h2); (simp only [List.contains_cons, List.contains_nil, Bool.or_false, Bool.or_eq_false_iff, beq_eq_false_iff_ne, ne_eq] at h3); (simp [kstB, h2, h3]; done))
  k_with "lp" => ((case hF => assumption); (case hk => kst_all); (case hN => assumption); (case hs => kstt_sub); (case hr => k_extra "hr"))
  k_with "subscriptTail Name Slice str ref" => ((with_reducible show wpAny _ _ (subscriptTail _ (Expr.Slice none (some (Expr.BoolOp _ _ _)) none _) _ _) _ _ _); (rename Fr _ _ _ _ => lF'); (rename News _ _ _ _ => lN'); (try dsimp only); (refine slice_strN_nn (hsz := ?hsz) (s := ⟨_, _, _, _, _⟩) lF' lN' ?_); (case hsz => size_fits); intro _ _ _ _ _; (try rw [slice_nn]))
  k_with "ite" => first | (refine ine_t (by omega) ?_) | (refine ine_f (by omega) ?_)
  k_with "exec For" => ((rename Fr _ _ _ _ => lF'); (with_unfolding_all refine' For_invVF lF' ?k1 ?k2 ?_; (case k1 => exact rfl); (case k2 => exact rfl); k_whole))
  k_with "pyIter ref" => refine Stop.out ?_
  k_extra "go"
  refine Stop.mk ?_
  (rename IsRange _ _ _ _ _ _ _ _ => rgX)
  (try clear lF)
  (rename Fr _ _ _ _ => lF)
  (rename News _ _ _ _ => lN)
  (rename _ ∧ AllLt _ _ => hAlt)
  obtain ⟨D, hD⟩ := news_head lN
  subst hD
  have hne : ∀ p ∈ news, p.1 ≠ D := fun p hp => Nat.ne_of_lt (allLt_mem hAlt.2 p hp)
  have hneL : L' + 1 ≠ D := Nat.ne_of_lt hAlt.1
  refine' lp_range (σ := (List Value × List Int) × (Nat × Obj)) 4 (fun c => (D, listOf c.1.1.toArray c.2.1) :: (L' + 1, c.2.2) :: news) (fun c => []) [Str.ofString "found", Str.ofString "row"]
    (fun i c => IntsAre c.1.1 c.1.2 ∧ c.1.2 = sumsS qs wish i ∧ ∃ x, c.2.2.data = Data.cell x) (([_], [0]), (_, _)) rfl rgX (small_one (by omega) (by omega) (by omega) (by omega)) (by rw [rangeSize_nat]; rfl) lF lN ?hk3 ?hp3 ?ha3 ?turn3 ?done3
  (case hk3 => kst_all)
  (case hp3 => exact ⟨.cons _ _ .nil, rfl, _, hdc⟩)
  (case ha3 => exact fun _ => rfl)
  case turn3 =>
    clear lF lN rgX; intro c3 i ti u3 h3 tk3 own3 hi hoff hP lF lN; (try dsimp only)
    obtain ⟨hP0, hP1, x3, hP2⟩ := hP
    have hn3 : ∀ p ∈ news ++ own3, p.1 ≠ D := fun p hp => (List.mem_append.mp hp).elim (hne p) (hoff.ne (List.Mem.head _) p)
    have hL3 : ∀ p ∈ news ++ own3, p.1 ≠ L' + 1 := fun p hp => (List.mem_append.mp hp).elim (hL1 p) (hoff.ne (.tail _ (List.Mem.head _)) p)
    rw [List.cons_append, List.cons_append] at lN
    have hmq3 : (lq, listOf vq.toArray nq) ∈ news ++ own3 := List.mem_append_left _ hmq
    have ei : (0 + (i : Int)).toNat = i := by omega
    k_extra "go"
    refine Stop.mk ?_
    (rename IsRange _ _ _ _ _ _ _ _ => rgX)
    (rename Fr _ _ _ _ => lF)
    (rename News _ _ _ _ => lN)
    (rename _ ∧ _ ∧ AllLt _ _ => hAlt3)
    obtain ⟨Df, hDf⟩ := news_head lN
    subst hDf
    have hpw := pow4 ⟨i, hi⟩
    obtain ⟨hpw1, hpw2, hpw3⟩ := hpw
    dsimp only at hpw1 hpw2 hpw3
    have hpi : (2 : Int) ^ (0 + (i : Int)).toNat = ((2 ^ i : Nat) : Int) := by rw [ei]; exact hpw3
    generalize hpn : (2 : Nat) ^ i = pn at hpw1 hpw2 hpw3 hpi ⊢
    have hf3 : ∀ p ∈ news ++ own3, p.1 ≠ Df := fun p hp => Nat.ne_of_lt (allLt_mem hAlt3.2.2 p hp)
    have hfD : D ≠ Df := Nat.ne_of_lt hAlt3.1
    have hfL : L' + 1 ≠ Df := Nat.ne_of_lt hAlt3.2.1
    refine' lp_range (σ := (List Value × List Int) × Nat) pn (fun c => (Df, listOf c.1.1.toArray c.2) :: (D, listOf c3.1.1.toArray c3.2.1) :: (L' + 1, c3.2.2) :: (news ++ own3)) (fun c => []) []
      (fun r c => IntsAre c.1.1 c.1.2 ∧ c.1.2 = foundS qs wish (sumsS qs wish i) i r) (([], []), _) rfl rgX (small_one (by omega) (by omega) (by omega) (by omega)) (by rw [rangeSize_nat, hpi]; omega) lF lN ?hk4 ?hp4 ?ha4 ?turn4 ?done4
    (case hk4 => kst_all)
    (case hp4 => exact ⟨.nil, rfl⟩)
    (case ha4 => exact fun _ => rfl)
    case turn4 =>
      clear lF lN rgX; intro c4 r tr u4 h4 tk4 own4 hr hoff4 hP4 lF lN; (try dsimp only)
      obtain ⟨hQ0, hQ1⟩ := hP4
      have hn4 : ∀ p ∈ (news ++ own3) ++ own4, p.1 ≠ Df := fun p hp => (List.mem_append.mp hp).elim (hf3 p) (hoff4.ne (List.Mem.head _) p)
      rw [List.cons_append, List.cons_append, List.cons_append] at lN
      have hmq4 : (lq, listOf vq.toArray nq) ∈ (Df, listOf c4.1.1.toArray c4.2) :: (D, listOf c3.1.1.toArray c3.2.1) :: (L' + 1, c3.2.2) :: ((news ++ own3) ++ own4) := .tail _ (.tail _ (.tail _ (List.mem_append_left _ hmq3)))
      have hmD : (D, listOf c3.1.1.toArray c3.2.1) ∈ (Df, listOf c4.1.1.toArray c4.2) :: (D, listOf c3.1.1.toArray c3.2.1) :: (L' + 1, c3.2.2) :: ((news ++ own3) ++ own4) := .tail _ (.head _)
      have hl3 : c3.1.2.length = pn := by rw [hP1, sumsS_len, hpn]
      have hsz4 : c4.1.1.length ≤ 8 := by
        rw [hQ0.length, hQ1]
        exact Nat.le_trans (foundS_len _ _ _ _ _) (by omega)
      have er : (0 + (r : Int)).toNat = r := by omega
      have erk : (0 + (r : Int) + 2 ^ (0 + (i : Int)).toNat).toNat = r + 2 ^ i := by rw [hpi, hpn]; omega
      k_with "app" => (rw [List.size_toArray, sizeLine_eq]; omega)
      k_extra "go"
      · obtain ⟨tq, N9, hi9⟩ := app_out hQ0 ‹News _ _ _ ((Df, listOf (Array.push _ _) _) :: _)›
        rename _ < wish => hlt
        rw [erk] at hlt
        refine' lpExI (τ := Nat) hi9 (c4.2 + 1) ?hF ?hN ?hs ?hk ?hr ?hx
        (case hF => assumption)
        (case hk => kst_all)
        (case hN => exact N9)
        (case hs => exact fun p hp => hp)
        (case hr => k_extra "hr")
        (case hx => exact ⟨hi9, by rw [foundS, if_pos hlt, er, hQ1, hP1]⟩)
      · rename ¬ _ < wish => hlt
        rw [erk] at hlt
        refine' lpExI (τ := Nat) hQ0 c4.2 ?hF ?hN ?hs ?hk ?hr ?hx
        (case hF => assumption)
        (case hk => kst_all)
        (case hN => assumption)
        (case hs => exact fun p hp => hp)
        (case hr => k_extra "hr")
        (case hx => exact ⟨hQ0, by rw [foundS, if_neg hlt, hQ1]⟩)
    clear lF lN rgX
    intro c4 u4 h4 tk4 hP4 lF lN; (try dsimp only)
    obtain ⟨hQ0, hQ1⟩ := hP4
    k_extra "go"
    refine Stop.mk ?_
    clear lF lN
    (rename Fr _ _ _ _ => lF)
    (rename News _ _ _ _ => lN)
    (rename _ = Data.cell (some (Value.int 0 _)) => hd4)
    generalize hfo : foundS qs wish (sumsS qs wish i) i pn = fo at hQ1
    have hfl : fo.length ≤ 16 := by
      rw [← hfo]
      exact Nat.le_trans (foundS_len _ _ _ _ _) (by omega)
    refine' lp_while (σ := Obj × (Int × Tok)) (fun c => (Df, listOf c4.1.1.toArray c4.2) :: (D, listOf c3.1.1.toArray c3.2.1) :: (L' + 1, c.1) :: (news ++ own3)) (fun c => []) []
      (fun c => c.1.data = Data.cell (some (.int c.2.1 c.2.2)) ∧ ∃ n, cntG fo c.2.1 ≤ n ∧ mexF n fo c.2.1 = mexF 16 fo 0) (fun c => cntG fo c.2.1) (_, (0, _)) lF lN ?hk5 ⟨hd4, 16, Nat.le_trans (cntG_len _ _) hfl, rfl⟩ ?hE5 ?turn5
    (case hk5 => kst_all)
    (case hE5 => with_unfolding_all passes_own)
    clear lF lN hd4; intro c5 u5 h5 tk5 hP5 lF lN; (try dsimp only); k_fold
    obtain ⟨hR0, hR1⟩ := hP5
    k_with "stopsrc" => refine Stop.out ?_
    k_extra "go"
    · rename (List.any _ _) = true => hany
      rw [hQ1] at hany
      (rename _ = Data.cell (some (Value.int (_ + 1) _)) => hd6)
      refine' lpExO hd6 ?hF ?hN ?hs ?hk ?hr ?hx
      (case hF => assumption)
      (case hk => kst_all)
      (case hN => assumption)
      (case hs => exact fun p hp => by rw [List.append_nil] at hp; exact hp)
      (case hr => k_extra "hr")
      (case hx => exact ⟨⟨hd6, mexF_step hany hR1⟩, cntG_lt hany⟩)
    rename (List.any _ _) = false => hany
    rw [hQ1] at hany
    have hT := mexF_end hany hR1
    have hl3 : c3.1.1.length = pn := by rw [hP0.length, hP1, sumsS_len, hpn]
    refine Stop.mk ?_
    refine LCg.CompSrc.ledger (k := c3.2.1) (by rfl) (by k_asm) (by k_asm) (.tail _ (.head _)) (by rw [List.size_toArray, sizeLine_eq]; omega) ?_
    intro g9
    refine' kcf_list (fun k => Builtin.bitXor c5.2.1 k) hP0 ?ct ?cf
    case ct =>
      intro k9 t9 I9 oI9 C9 oC9 D9 m9 ys9 hh9 tk9 E9 hk9 hC9 hx9 F9 N9 off9 ne9 mk9
      k_extra "go"
    unfold KPfDone
    intro ys9 hys9
    unfold LCg.FinE
    intro Dn hh9 tk9 F9 N9 off9
    have off1 : Df ≠ Dn ∧ D ≠ Dn ∧ _ := off9
    k_with "extend" => refine Stop.out ?_
    k_extra "go"
    refine Stop.mk ?_
    refine' extend_in_ints (own := [(Dn, LCg.lst ys9), (Df, listOf c4.1.1.toArray c4.2)]) (D := D) (b := Dn) F9 N9 ?xo ?xr (N9 _ (.head _)).1 hP0 (ms := c3.1.2.map fun k => Builtin.bitXor c5.2.1 k) hys9 ?xq ?xz
    case xo =>
      intro p hp
      rcases List.mem_cons.mp hp with rfl | hp
      · exact Ne.symm off1.2.1
      · rw [List.mem_singleton.mp hp]
        exact Ne.symm hfD
    case xr =>
      intro p hp
      rcases List.mem_cons.mp hp with rfl | hp
      · exact hneL
      · exact hn3 p hp
    case xz =>
      rw [List.size_toArray, hl3, hys9.length, List.length_map, hP1, sumsS_len, hpn, sizeLine_eq]
      omega
    intro h10 n10 F10 N10 hi10
    k_extra "go"
    refine' lpExI (τ := Nat × Obj) hi10 (n10, c5.1) ?hF ?hN ?hs ?hk ?hr ?hx
    (case hF => assumption)
    (case hk => kst_all)
    (case hN => exact N10)
    (case hs => exact fun p hp => .tail _ (.tail _ hp))
    (case hr => k_extra "hr")
    (case hx => exact ⟨hi10, by rw [sumsS, hpn, hfo, hT, hP1], _, hR0⟩)
  clear lF lN rgX
  intro c3 u3 h3 tk3 hP lF lN; (try dsimp only)
  obtain ⟨hP0, hP1, x3, hP2⟩ := hP
  k_extra "go"
  exact retL hret hP1 hP0 hne (by assumption) (by assumption) (List.Mem.head _) (fun p hp => .tail _ (.tail _ hp))
end Mine
end

section
open PySem PySem.W PySem.Calls PyProof.Rows
set_option Elab.async false
namespace Mine
local macro_rules | `(tactic| omega) => `(tactic| first | decide | lia)
set_option maxRecDepth 100000
theorem ifb_t {b : Bool} {P Q : Prop} (h : b = true) (p : P) : if b = true then P else Q := by rw [if_pos h]; exact p
theorem ifb_f {b : Bool} {P Q : Prop} (h : b = false) (q : Q) : if b = true then P else Q := by rw [h]; exact q
noncomputable def subC1 (c : Nat) (z : List Nat) (l : List Nat) : List Nat := l.flatMap fun k => if k = c then z else [k]
theorem subC1_free (c : Nat) (z : List Nat) : ∀ l : List Nat, c ∉ l → subC1 c z l = l
  | [], _ => rfl
  | k :: r, h => by
    have h1 : ¬ k = c := fun e => h (e ▸ List.mem_cons_self ..)
    have ih := subC1_free c z r fun m => h (List.mem_cons_of_mem _ m)
    unfold subC1 at ih ⊢
    rw [List.flatMap_cons, if_neg h1, ih]; rfl
theorem subC1_app (c : Nat) (z a b : List Nat) : subC1 c z (a ++ b) = subC1 c z a ++ subC1 c z b := by unfold subC1; rw [List.flatMap_append]
theorem subC1_one (c : Nat) (z : List Nat) : subC1 c z [c] = z := by unfold subC1; simp
theorem subC1_join (c : Nat) (z : Str) : ∀ parts : List Str, (∀ p ∈ parts, c ∉ p.cps.toList) → subC1 c (lsT z) (lsT (Str.join ⟨#[c]⟩ parts)) = lsT (Str.join z parts)
  | [], _ => rfl
  | [p], h => subC1_free c _ _ (h p (List.mem_singleton.mpr rfl))
  | p :: q :: r, h => by
    have ih := subC1_join c z (q :: r) fun a ha => h a (List.mem_cons_of_mem _ ha)
    show subC1 c (lsT z) (lsT (p ++ ⟨#[c]⟩ ++ Str.join ⟨#[c]⟩ (q :: r))) = lsT (p ++ z ++ Str.join z (q :: r))
    simp only [lsT, Str.cps_append, Array.toList_append] at ih ⊢
    rw [subC1_app, subC1_app, ih, subC1_free c _ _ (h p (List.mem_cons_self ..))]
    show p.cps.toList ++ subC1 c _ [c] ++ _ = _
    rw [subC1_one]
theorem replace_char (x z : Str) (c : Nat) : lsT (Txt.replace x ⟨#[c]⟩ z) = subC1 c (lsT z) (lsT x) := by
  rw [StrLaws.replace_one, ← subC1_join c z _ (StrLaws.split_free x c), StrLaws.join_split]
theorem replace_last {x z : Str} {c : Nat} {h : List Nat} (hx : lsT x = h ++ [c]) (hc : c ∉ h) : Txt.replace x ⟨#[c]⟩ z = tx (h ++ lsT z) := by
  rw [← tx_ls (Txt.replace x ⟨#[c]⟩ z), replace_char, hx, subC1_app, subC1_one, subC1_free c _ _ hc]
abbrev hasC (x y : Str) : Bool := !(Builtin.Str.occurrences x y 0 x.length 1).isEmpty
theorem hasC_of {x : Str} {y : Str} {c : Nat} {l : List Nat} (hy : y = ⟨#[c]⟩) (hx : lsT x = l) : hasC x y = decide (c ∈ l) := by
  subst hy; subst hx
  exact StrLaws.found_one x c
noncomputable def spec7 : List Nat := [38, 60, 62, 34, 13, 10, 9]
theorem hasC_no {x y : Str} {c : Nat} {l : List Nat} (hy : y = ⟨#[c]⟩) (hx : lsT x = l) (h : c ∉ l) : hasC x y = false := by rw [hasC_of hy hx, decide_eq_false h]
theorem hasC_yes {x y : Str} {c : Nat} {l : List Nat} (hy : y = ⟨#[c]⟩) (hx : lsT x = l) (h : c ∈ l) : hasC x y = true := by rw [hasC_of hy hx, decide_eq_true h]
theorem notin_last {h : List Nat} {c d : Nat} (hh : ∀ c ∈ h, c ∉ spec7) (hc : c ∈ spec7) (hd : c ≠ d) : c ∉ h ++ [d] := by
  intro m
  rcases List.mem_append.mp m with m | m
  · exact hh c m hc
  · exact hd (List.mem_singleton.mp m)
theorem notin_ref {h r : List Nat} {c : Nat} (hh : ∀ c ∈ h, c ∉ spec7) (hc : c ∈ spec7) (hr : c ∉ r) : c ∉ h ++ r := by
  intro m
  rcases List.mem_append.mp m with m | m
  · exact hh c m hc
  · exact hr m
theorem s38 : Str.ofString "&" = ⟨#[38]⟩ := rfl
theorem s60 : Str.ofString "<" = ⟨#[60]⟩ := rfl
theorem s62 : Str.ofString ">" = ⟨#[62]⟩ := rfl
theorem s34 : Str.ofString "\"" = ⟨#[34]⟩ := rfl
theorem s13 : Str.ofString "\r" = ⟨#[13]⟩ := rfl
theorem s10 : Str.ofString "\n" = ⟨#[10]⟩ := rfl
theorem s9 : Str.ofString "\t" = ⟨#[9]⟩ := rfl
noncomputable def ltL : List Nat := [38, 108, 116, 59]
noncomputable def gtL : List Nat := [38, 103, 116, 59]
theorem repl_lt {x : Str} {h : List Nat} (hx : lsT x = h ++ [60]) (hc : 60 ∉ h) : Txt.replace x (Str.ofString "<") (Str.ofString "&lt;") = tx (h ++ ltL) := replace_last hx hc
theorem repl_gt {x : Str} {h : List Nat} (hx : lsT x = h ++ [62]) (hc : 62 ∉ h) : Txt.replace x (Str.ofString ">") (Str.ofString "&gt;") = tx (h ++ gtL) := replace_last hx hc
end Mine
end

section
open PySem PySem.W PySem.Calls PyProof.Rows
set_option Elab.async false
namespace Mine
local macro_rules | `(tactic| walk_at "nothing 0") => `(tactic| skip)
local macro_rules | `(tactic| walk_at "nothing 1") => `(tactic| skip)
local macro_rules | `(tactic| omega) => `(tactic| first | decide | lia)
set_option maxRecDepth 100000
set_option maxHeartbeats 4000000
section
local macro_rules | `(tactic| k_all) => `(tactic| assumption)
local macro_rules | `(tactic| k_mem) => `(tactic| assumption)
local macro_rules | `(tactic| walk_at "execs cons") => `(tactic| (k_here; refine execs_consT ?_))
local macro_rules | `(tactic| walk_at "exec Try") => `(tactic| refine wpAny_Try_except ?_)
local macro_rules | `(tactic| walk_at "execs nil") => `(tactic| (k_here; refine wpAny_execs_nil ?_))
local macro_rules | `(tactic| walk_at "call builtin:str.replace") => `(tactic| k_extra "repl")
theorem c_esc94l (w : World) (mean : ExcName → Option Value) (mg mb : Str → Option Value) (news : List (Addr × Obj)) (xa : Str) (ta : Tok) (h : List Nat)
   (hx : lsT xa = h ++ [60]) (hh : ∀ c ∈ h, c ∉ spec7) (hl : h.length ≤ 4) :
   Cl w mean mg mb 94 news 2 [.str xa ta] (fun h₀ L m s Q => @LE.le Nat _ 1 s.toks ∧ RetS news (tx (h ++ ltL)) h₀ L m s Q) := by
  w_top off
  unfold Cl
  k_fill
  intro dp un gd cn cs a1 ccd cl outer A₀ base h₀ L m s Q E B F X N T hk hdp hu hret
  obtain ⟨htk, hret⟩ := hret
  refine wpAny_call ?_
  k_dflt (refine' code_defCT ?k1 ?k2 ?k3 ?k4 ?k5 ?kA ?kF ?kK ?k6 ?k7 ?k8 ?k9 ?kB ?kD ?_ ?c2 ?c3 ?c4; (case kA => exact rfl); (case kF => exact rfl); (case kK => assumption); (case k1 => k_asm); (case k2 => k_asm); (case k3 => k_asm); (case k4 => k_asm); (case k5 => k_asm); (case k6 => k_is); (case k7 => k_is); (case k8 => ktr_room); (case k9 => exact BindsTo.of_eq rfl); (case kB => exact rfl); (case kD => decide +kernel); (case c2 => exact rfl); (case c3 => exact rfl); (case c4 => exact rfl); k_whole; intro g' L' h' tk' cells' hle' FG' F' N' Y' B' X' T' l1; (try k_lt l1); ((have Y2 : CellsAre _ [] cells' := Y'); (cases Y2)); (try simp only [List.cons_append, List.nil_append] at N'); (try dsimp only); (try k_lift B'); (try k_fold))
  have lF : Fr g' L' h' (kstB (fun _ => none) [(Str.ofString "text", .str xa ta)]) := F'
  clear F'
  have hlx : xa.length ≤ 40 := by rw [← ls_len, hx, List.length_append]; simp; omega
  have h1 : @LE.le Nat _ 1 tk' := Nat.le_trans htk hle'
  k_with_none
  k_with "exec While" => refine Stop.out ?_
  k_with "LpQ" => first | refine lpQ_ret ?_ | refine lpQ_next ?_ | refine lpQ_brk ?_ | refine lpQ_cont ?_
  k_with "LpPost" => first | refine lpPost_ret ?_ | refine lpPost_next ?_ | refine lpPost_brk ?_ | refine lpPost_cont ?_
  k_with "go" => repeat' (first | (k_unfold; (try dsimp only)) | walk1 | (dsimp only; walk1) | (leave1; try dsimp only))
  k_with "hr" => (intro z h2 h3; (simp only [List.forall_mem_cons, List.not_mem_nil, false_implies, implies_true, and_true, ne_eq] at h2); (simp only [List.contains_cons, List.contains_nil, Bool.or_false, Bool.or_eq_false_iff, beq_eq_false_iff_ne, ne_eq] at h3); (simp [kstB, h2, h3]; done))
  k_with "lp" => ((case hF => assumption); (case hk => kst_all); (case hN => assumption); (case hs => kstt_sub); (case hr => k_extra "hr"))
  k_with "subscriptTail Name Slice str ref" => ((with_reducible show wpAny _ _ (subscriptTail _ (Expr.Slice none (some (Expr.BoolOp _ _ _)) none _) _ _) _ _ _); (rename Fr _ _ _ _ => lF'); (rename News _ _ _ _ => lN'); (try dsimp only); (refine slice_strN_nn (hsz := ?hsz) (s := ⟨_, _, _, _, _⟩) lF' lN' ?_); (case hsz => size_fits); intro _ _ _ _ _; (try rw [slice_nn]))
  k_with "ite" => first | (refine ine_t (by omega) ?_) | (refine ine_f (by omega) ?_)
  k_with "exec For" => ((rename Fr _ _ _ _ => lF'); (with_unfolding_all refine' For_invVF lF' ?k1 ?k2 ?_; (case k1 => exact rfl); (case k2 => exact rfl); k_whole))
  k_with "pyIter ref" => refine Stop.out ?_
  have a38 := hasC_no s38 hx (notin_last hh (by decide) (by decide))
  have a60 := hasC_yes s60 hx (by simp)
  have a62 := hasC_no s62 hx (notin_last hh (by decide) (by decide))
  have a34 := hasC_no s34 hx (notin_last hh (by decide) (by decide))
  have a13 := hasC_no s13 hx (notin_last hh (by decide) (by decide))
  have a10 := hasC_no s10 hx (notin_last hh (by decide) (by decide))
  have a9 := hasC_no s9 hx (notin_last hh (by decide) (by decide))
  have hr := repl_lt hx (fun m => hh 60 m (by decide))
  generalize hx2 : tx (h ++ ltL) = x2 at hr hret
  have hx2' : lsT x2 = h ++ ltL := by rw [← hx2]
  have b60 := hasC_no s60 hx2' (notin_ref hh (by decide) (by decide))
  have b62 := hasC_no s62 hx2' (notin_ref hh (by decide) (by decide))
  have b34 := hasC_no s34 hx2' (notin_ref hh (by decide) (by decide))
  have b13 := hasC_no s13 hx2' (notin_ref hh (by decide) (by decide))
  have b10 := hasC_no s10 hx2' (notin_ref hh (by decide) (by decide))
  have b9 := hasC_no s9 hx2' (notin_ref hh (by decide) (by decide))
  k_with "repl" => ((refine wpAny_of_toks ?_); (refine SC.replaceW (by show @Ne Nat _ 0; omega) (by show @Ne Nat _ 0; omega) (by show @Ne Nat _ _; omega) (by decide) (by omega) (by decide) ?_); intro t5 k5 h5; (try dsimp only at h5); rw [hr])
  k_with "ite" => with_reducible first | refine ifb_f a38 ?_ | refine ifb_t a60 ?_ | refine ifb_f a62 ?_ | refine ifb_f a34 ?_ | refine ifb_f a13 ?_ | refine ifb_f a10 ?_ | refine ifb_f a9 ?_ | refine ifb_f b60 ?_ | refine ifb_f b62 ?_ | refine ifb_f b34 ?_ | refine ifb_f b13 ?_ | refine ifb_f b10 ?_ | refine ifb_f b9 ?_
  k_extra "go"
  exact retS hret rfl (by assumption) (by assumption) (fun p hp => hp)
theorem c_esc94g (w : World) (mean : ExcName → Option Value) (mg mb : Str → Option Value) (news : List (Addr × Obj)) (xa : Str) (ta : Tok) (h : List Nat)
   (hx : lsT xa = h ++ [62]) (hh : ∀ c ∈ h, c ∉ spec7) (hl : h.length ≤ 4) :
   Cl w mean mg mb 94 news 2 [.str xa ta] (fun h₀ L m s Q => @LE.le Nat _ 1 s.toks ∧ RetS news (tx (h ++ gtL)) h₀ L m s Q) := by
  w_top off
  unfold Cl
  k_fill
  intro dp un gd cn cs a1 ccd cl outer A₀ base h₀ L m s Q E B F X N T hk hdp hu hret
  obtain ⟨htk, hret⟩ := hret
  refine wpAny_call ?_
  k_dflt (refine' code_defCT ?k1 ?k2 ?k3 ?k4 ?k5 ?kA ?kF ?kK ?k6 ?k7 ?k8 ?k9 ?kB ?kD ?_ ?c2 ?c3 ?c4; (case kA => exact rfl); (case kF => exact rfl); (case kK => assumption); (case k1 => k_asm); (case k2 => k_asm); (case k3 => k_asm); (case k4 => k_asm); (case k5 => k_asm); (case k6 => k_is); (case k7 => k_is); (case k8 => ktr_room); (case k9 => exact BindsTo.of_eq rfl); (case kB => exact rfl); (case kD => decide +kernel); (case c2 => exact rfl); (case c3 => exact rfl); (case c4 => exact rfl); k_whole; intro g' L' h' tk' cells' hle' FG' F' N' Y' B' X' T' l1; (try k_lt l1); ((have Y2 : CellsAre _ [] cells' := Y'); (cases Y2)); (try simp only [List.cons_append, List.nil_append] at N'); (try dsimp only); (try k_lift B'); (try k_fold))
  have lF : Fr g' L' h' (kstB (fun _ => none) [(Str.ofString "text", .str xa ta)]) := F'
  clear F'
  have hlx : xa.length ≤ 40 := by rw [← ls_len, hx, List.length_append]; simp; omega
  have h1 : @LE.le Nat _ 1 tk' := Nat.le_trans htk hle'
  k_with_none
  k_with "exec While" => refine Stop.out ?_
  k_with "LpQ" => first | refine lpQ_ret ?_ | refine lpQ_next ?_ | refine lpQ_brk ?_ | refine lpQ_cont ?_
  k_with "LpPost" => first | refine lpPost_ret ?_ | refine lpPost_next ?_ | refine lpPost_brk ?_ | refine lpPost_cont ?_
  k_with "go" => repeat' (first | (k_unfold; (try dsimp only)) | walk1 | (dsimp only; walk1) | (leave1; try dsimp only))
  k_with "hr" => (intro z h2 h3; (simp only [List.forall_mem_cons, List.not_mem_nil, false_implies, implies_true, and_true, ne_eq] at h2); (simp only [List.contains_cons, List.contains_nil, Bool.or_false, Bool.or_eq_false_iff, beq_eq_false_iff_ne, ne_eq] at h3); (simp [kstB, h2, h3]; done))
  k_with "lp" => ((case hF => assumption); (case hk => kst_all); (case hN => assumption); (case hs => kstt_sub); (case hr => k_extra "hr"))
  k_with "subscriptTail Name Slice str ref" => ((with_reducible show wpAny _ _ (subscriptTail _ (Expr.Slice none (some (Expr.BoolOp _ _ _)) none _) _ _) _ _ _); (rename Fr _ _ _ _ => lF'); (rename News _ _ _ _ => lN'); (try dsimp only); (refine slice_strN_nn (hsz := ?hsz) (s := ⟨_, _, _, _, _⟩) lF' lN' ?_); (case hsz => size_fits); intro _ _ _ _ _; (try rw [slice_nn]))
  k_with "ite" => first | (refine ine_t (by omega) ?_) | (refine ine_f (by omega) ?_)
  k_with "exec For" => ((rename Fr _ _ _ _ => lF'); (with_unfolding_all refine' For_invVF lF' ?k1 ?k2 ?_; (case k1 => exact rfl); (case k2 => exact rfl); k_whole))
  k_with "pyIter ref" => refine Stop.out ?_
  have a38 := hasC_no s38 hx (notin_last hh (by decide) (by decide))
  have a60 := hasC_no s60 hx (notin_last hh (by decide) (by decide))
  have a62 := hasC_yes s62 hx (by simp)
  have a34 := hasC_no s34 hx (notin_last hh (by decide) (by decide))
  have a13 := hasC_no s13 hx (notin_last hh (by decide) (by decide))
  have a10 := hasC_no s10 hx (notin_last hh (by decide) (by decide))
  have a9 := hasC_no s9 hx (notin_last hh (by decide) (by decide))
  have hr := repl_gt hx (fun m => hh 62 m (by decide))
  generalize hx2 : tx (h ++ gtL) = x2 at hr hret
  have hx2' : lsT x2 = h ++ gtL := by rw [← hx2]
  have b60 := hasC_no s60 hx2' (notin_ref hh (by decide) (by decide))
  have b62 := hasC_no s62 hx2' (notin_ref hh (by decide) (by decide))
  have b34 := hasC_no s34 hx2' (notin_ref hh (by decide) (by decide))
  have b13 := hasC_no s13 hx2' (notin_ref hh (by decide) (by decide))
  have b10 := hasC_no s10 hx2' (notin_ref hh (by decide) (by decide))
  have b9 := hasC_no s9 hx2' (notin_ref hh (by decide) (by decide))
  k_with "repl" => ((refine wpAny_of_toks ?_); (refine SC.replaceW (by show @Ne Nat _ 0; omega) (by show @Ne Nat _ 0; omega) (by show @Ne Nat _ _; omega) (by decide) (by omega) (by decide) ?_); intro t5 k5 h5; (try dsimp only at h5); rw [hr])
  k_with "ite" => with_reducible first | refine ifb_f a38 ?_ | refine ifb_f a60 ?_ | refine ifb_t a62 ?_ | refine ifb_f a34 ?_ | refine ifb_f a13 ?_ | refine ifb_f a10 ?_ | refine ifb_f a9 ?_ | refine ifb_f b60 ?_ | refine ifb_f b62 ?_ | refine ifb_f b34 ?_ | refine ifb_f b13 ?_ | refine ifb_f b10 ?_ | refine ifb_f b9 ?_
  k_extra "go"
  exact retS hret rfl (by assumption) (by assumption) (fun p hp => hp)
theorem c_esc101l (w : World) (mean : ExcName → Option Value) (mg mb : Str → Option Value) (news : List (Addr × Obj)) (xa : Str) (ta : Tok) (h : List Nat)
   (hx : lsT xa = h ++ [60]) (hh : ∀ c ∈ h, c ∉ spec7) (hl : h.length ≤ 4) :
   Cl w mean mg mb 101 news 2 [.str xa ta] (fun h₀ L m s Q => @LE.le Nat _ 1 s.toks ∧ RetS news (tx (h ++ ltL)) h₀ L m s Q) := by
  w_top off
  unfold Cl
  k_fill
  intro dp un gd cn cs a1 ccd cl outer A₀ base h₀ L m s Q E B F X N T hk hdp hu hret
  obtain ⟨htk, hret⟩ := hret
  refine wpAny_call ?_
  k_dflt (refine' code_defCT ?k1 ?k2 ?k3 ?k4 ?k5 ?kA ?kF ?kK ?k6 ?k7 ?k8 ?k9 ?kB ?kD ?_ ?c2 ?c3 ?c4; (case kA => exact rfl); (case kF => exact rfl); (case kK => assumption); (case k1 => k_asm); (case k2 => k_asm); (case k3 => k_asm); (case k4 => k_asm); (case k5 => k_asm); (case k6 => k_is); (case k7 => k_is); (case k8 => ktr_room); (case k9 => exact BindsTo.of_eq rfl); (case kB => exact rfl); (case kD => decide +kernel); (case c2 => exact rfl); (case c3 => exact rfl); (case c4 => exact rfl); k_whole; intro g' L' h' tk' cells' hle' FG' F' N' Y' B' X' T' l1; (try k_lt l1); ((have Y2 : CellsAre _ [] cells' := Y'); (cases Y2)); (try simp only [List.cons_append, List.nil_append] at N'); (try dsimp only); (try k_lift B'); (try k_fold))
  have lF : Fr g' L' h' (kstB (fun _ => none) [(Str.ofString "text", .str xa ta)]) := F'
  clear F'
  have hlx : xa.length ≤ 40 := by rw [← ls_len, hx, List.length_append]; simp; omega
  have h1 : @LE.le Nat _ 1 tk' := Nat.le_trans htk hle'
  k_with_none
  k_with "exec While" => refine Stop.out ?_
  k_with "LpQ" => first | refine lpQ_ret ?_ | refine lpQ_next ?_ | refine lpQ_brk ?_ | refine lpQ_cont ?_
  k_with "LpPost" => first | refine lpPost_ret ?_ | refine lpPost_next ?_ | refine lpPost_brk ?_ | refine lpPost_cont ?_
  k_with "go" => repeat' (first | (k_unfold; (try dsimp only)) | walk1 | (dsimp only; walk1) | (leave1; try dsimp only))
  k_with "hr" => (intro z h2 h3; (simp only [List.forall_mem_cons, List.not_mem_nil, false_implies, implies_true, and_true, ne_eq] at h2); (simp only [List.contains_cons, List.contains_nil, Bool.or_false, Bool.or_eq_false_iff, beq_eq_false_iff_ne, ne_eq] at h3); (simp [kstB, h2, h3]; done))
  k_with "lp" => ((case hF => assumption); (case hk => kst_all); (case hN => assumption); (case hs => kstt_sub); (case hr => k_extra "hr"))
  k_with "subscriptTail Name Slice str ref" => ((with_reducible show wpAny _ _ (subscriptTail _ (Expr.Slice none (some (Expr.BoolOp _ _ _)) none _) _ _) _ _ _); (rename Fr _ _ _ _ => lF'); (rename News _ _ _ _ => lN'); (try dsimp only); (refine slice_strN_nn (hsz := ?hsz) (s := ⟨_, _, _, _, _⟩) lF' lN' ?_); (case hsz => size_fits); intro _ _ _ _ _; (try rw [slice_nn]))
  k_with "ite" => first | (refine ine_t (by omega) ?_) | (refine ine_f (by omega) ?_)
  k_with "exec For" => ((rename Fr _ _ _ _ => lF'); (with_unfolding_all refine' For_invVF lF' ?k1 ?k2 ?_; (case k1 => exact rfl); (case k2 => exact rfl); k_whole))
  k_with "pyIter ref" => refine Stop.out ?_
  have a38 := hasC_no s38 hx (notin_last hh (by decide) (by decide))
  have a60 := hasC_yes s60 hx (by simp)
  have a62 := hasC_no s62 hx (notin_last hh (by decide) (by decide))
  have a34 := hasC_no s34 hx (notin_last hh (by decide) (by decide))
  have a13 := hasC_no s13 hx (notin_last hh (by decide) (by decide))
  have a10 := hasC_no s10 hx (notin_last hh (by decide) (by decide))
  have a9 := hasC_no s9 hx (notin_last hh (by decide) (by decide))
  have hr := repl_lt hx (fun m => hh 60 m (by decide))
  generalize hx2 : tx (h ++ ltL) = x2 at hr hret
  have hx2' : lsT x2 = h ++ ltL := by rw [← hx2]
  have b60 := hasC_no s60 hx2' (notin_ref hh (by decide) (by decide))
  have b62 := hasC_no s62 hx2' (notin_ref hh (by decide) (by decide))
  have b34 := hasC_no s34 hx2' (notin_ref hh (by decide) (by decide))
  have b13 := hasC_no s13 hx2' (notin_ref hh (by decide) (by decide))
  have b10 := hasC_no s10 hx2' (notin_ref hh (by decide) (by decide))
  have b9 := hasC_no s9 hx2' (notin_ref hh (by decide) (by decide))
  k_with "repl" => ((refine wpAny_of_toks ?_); (refine SC.replaceW (by show @Ne Nat _ 0; omega) (by show @Ne Nat _ 0; omega) (by show @Ne Nat _ _; omega) (by decide) (by omega) (by decide) ?_); intro t5 k5 h5; (try dsimp only at h5); rw [hr])
  k_with "ite" => with_reducible first | refine ifb_f a38 ?_ | refine ifb_t a60 ?_ | refine ifb_f a62 ?_ | refine ifb_f a34 ?_ | refine ifb_f a13 ?_ | refine ifb_f a10 ?_ | refine ifb_f a9 ?_ | refine ifb_f b60 ?_ | refine ifb_f b62 ?_ | refine ifb_f b34 ?_ | refine ifb_f b13 ?_ | refine ifb_f b10 ?_ | refine ifb_f b9 ?_
  k_extra "go"
  exact retS hret rfl (by assumption) (by assumption) (fun p hp => hp)
theorem c_esc101g (w : World) (mean : ExcName → Option Value) (mg mb : Str → Option Value) (news : List (Addr × Obj)) (xa : Str) (ta : Tok) (h : List Nat)
   (hx : lsT xa = h ++ [62]) (hh : ∀ c ∈ h, c ∉ spec7) (hl : h.length ≤ 4) :
   Cl w mean mg mb 101 news 2 [.str xa ta] (fun h₀ L m s Q => @LE.le Nat _ 1 s.toks ∧ RetS news (tx (h ++ gtL)) h₀ L m s Q) := by
  w_top off
  unfold Cl
  k_fill
  intro dp un gd cn cs a1 ccd cl outer A₀ base h₀ L m s Q E B F X N T hk hdp hu hret
  obtain ⟨htk, hret⟩ := hret
  refine wpAny_call ?_
  k_dflt (refine' code_defCT ?k1 ?k2 ?k3 ?k4 ?k5 ?kA ?kF ?kK ?k6 ?k7 ?k8 ?k9 ?kB ?kD ?_ ?c2 ?c3 ?c4; (case kA => exact rfl); (case kF => exact rfl); (case kK => assumption); (case k1 => k_asm); (case k2 => k_asm); (case k3 => k_asm); (case k4 => k_asm); (case k5 => k_asm); (case k6 => k_is); (case k7 => k_is); (case k8 => ktr_room); (case k9 => exact BindsTo.of_eq rfl); (case kB => exact rfl); (case kD => decide +kernel); (case c2 => exact rfl); (case c3 => exact rfl); (case c4 => exact rfl); k_whole; intro g' L' h' tk' cells' hle' FG' F' N' Y' B' X' T' l1; (try k_lt l1); ((have Y2 : CellsAre _ [] cells' := Y'); (cases Y2)); (try simp only [List.cons_append, List.nil_append] at N'); (try dsimp only); (try k_lift B'); (try k_fold))
  have lF : Fr g' L' h' (kstB (fun _ => none) [(Str.ofString "text", .str xa ta)]) := F'
  clear F'
  have hlx : xa.length ≤ 40 := by rw [← ls_len, hx, List.length_append]; simp; omega
  have h1 : @LE.le Nat _ 1 tk' := Nat.le_trans htk hle'
  k_with_none
  k_with "exec While" => refine Stop.out ?_
  k_with "LpQ" => first | refine lpQ_ret ?_ | refine lpQ_next ?_ | refine lpQ_brk ?_ | refine lpQ_cont ?_
  k_with "LpPost" => first | refine lpPost_ret ?_ | refine lpPost_next ?_ | refine lpPost_brk ?_ | refine lpPost_cont ?_
  k_with "go" => repeat' (first | (k_unfold; (try dsimp only)) | walk1 | (dsimp only; walk1) | (leave1; try dsimp only))
  k_with "hr" => (intro z h2 h3; (simp only [List.forall_mem_cons, List.not_mem_nil, false_implies, implies_true, and_true, ne_eq] at h2); (simp only [List.contains_cons, List.contains_nil, Bool.or_false, Bool.or_eq_false_iff, beq_eq_false_iff_ne, ne_eq] at h3); (simp [kstB, h2, h3]; done))
  k_with "lp" => ((case hF => assumption); (case hk => kst_all); (case hN => assumption); (case hs => kstt_sub); (case hr => k_extra "hr"))
  k_with "subscriptTail Name Slice str ref" => ((with_reducible show wpAny _ _ (subscriptTail _ (Expr.Slice none (some (Expr.BoolOp _ _ _)) none _) _ _) _ _ _); (rename Fr _ _ _ _ => lF'); (rename News _ _ _ _ => lN'); (try dsimp only); (refine slice_strN_nn (hsz := ?hsz) (s := ⟨_, _, _, _, _⟩) lF' lN' ?_); (case hsz => size_fits); intro _ _ _ _ _; (try rw [slice_nn]))
  k_with "ite" => first | (refine ine_t (by omega) ?_) | (refine ine_f (by omega) ?_)
  k_with "exec For" => ((rename Fr _ _ _ _ => lF'); (with_unfolding_all refine' For_invVF lF' ?k1 ?k2 ?_; (case k1 => exact rfl); (case k2 => exact rfl); k_whole))
  k_with "pyIter ref" => refine Stop.out ?_
  have a38 := hasC_no s38 hx (notin_last hh (by decide) (by decide))
  have a60 := hasC_no s60 hx (notin_last hh (by decide) (by decide))
  have a62 := hasC_yes s62 hx (by simp)
  have a34 := hasC_no s34 hx (notin_last hh (by decide) (by decide))
  have a13 := hasC_no s13 hx (notin_last hh (by decide) (by decide))
  have a10 := hasC_no s10 hx (notin_last hh (by decide) (by decide))
  have a9 := hasC_no s9 hx (notin_last hh (by decide) (by decide))
  have hr := repl_gt hx (fun m => hh 62 m (by decide))
  generalize hx2 : tx (h ++ gtL) = x2 at hr hret
  have hx2' : lsT x2 = h ++ gtL := by rw [← hx2]
  have b60 := hasC_no s60 hx2' (notin_ref hh (by decide) (by decide))
  have b62 := hasC_no s62 hx2' (notin_ref hh (by decide) (by decide))
  have b34 := hasC_no s34 hx2' (notin_ref hh (by decide) (by decide))
  have b13 := hasC_no s13 hx2' (notin_ref hh (by decide) (by decide))
  have b10 := hasC_no s10 hx2' (notin_ref hh (by decide) (by decide))
  have b9 := hasC_no s9 hx2' (notin_ref hh (by decide) (by decide))
  k_with "repl" => ((refine wpAny_of_toks ?_); (refine SC.replaceW (by show @Ne Nat _ 0; omega) (by show @Ne Nat _ 0; omega) (by show @Ne Nat _ _; omega) (by decide) (by omega) (by decide) ?_); intro t5 k5 h5; (try dsimp only at h5); rw [hr])
  k_with "ite" => with_reducible first | refine ifb_f a38 ?_ | refine ifb_f a60 ?_ | refine ifb_t a62 ?_ | refine ifb_f a34 ?_ | refine ifb_f a13 ?_ | refine ifb_f a10 ?_ | refine ifb_f a9 ?_ | refine ifb_f b60 ?_ | refine ifb_f b62 ?_ | refine ifb_f b34 ?_ | refine ifb_f b13 ?_ | refine ifb_f b10 ?_ | refine ifb_f b9 ?_
  k_extra "go"
  exact retS hret rfl (by assumption) (by assumption) (fun p hp => hp)
theorem c_esc115l (w : World) (mean : ExcName → Option Value) (mg mb : Str → Option Value) (news : List (Addr × Obj)) (xa : Str) (ta : Tok) (h : List Nat)
   (hx : lsT xa = h ++ [60]) (hh : ∀ c ∈ h, c ∉ spec7) (hl : h.length ≤ 4) :
   Cl w mean mg mb 115 news 2 [.str xa ta] (fun h₀ L m s Q => @LE.le Nat _ 1 s.toks ∧ RetS news (tx (h ++ ltL)) h₀ L m s Q) := by
  w_top off
  unfold Cl
  k_fill
  intro dp un gd cn cs a1 ccd cl outer A₀ base h₀ L m s Q E B F X N T hk hdp hu hret
  obtain ⟨htk, hret⟩ := hret
  refine wpAny_call ?_
  k_dflt (refine' code_defCT ?k1 ?k2 ?k3 ?k4 ?k5 ?kA ?kF ?kK ?k6 ?k7 ?k8 ?k9 ?kB ?kD ?_ ?c2 ?c3 ?c4; (case kA => exact rfl); (case kF => exact rfl); (case kK => assumption); (case k1 => k_asm); (case k2 => k_asm); (case k3 => k_asm); (case k4 => k_asm); (case k5 => k_asm); (case k6 => k_is); (case k7 => k_is); (case k8 => ktr_room); (case k9 => exact BindsTo.of_eq rfl); (case kB => exact rfl); (case kD => decide +kernel); (case c2 => exact rfl); (case c3 => exact rfl); (case c4 => exact rfl); k_whole; intro g' L' h' tk' cells' hle' FG' F' N' Y' B' X' T' l1; (try k_lt l1); ((have Y2 : CellsAre _ [] cells' := Y'); (cases Y2)); (try simp only [List.cons_append, List.nil_append] at N'); (try dsimp only); (try k_lift B'); (try k_fold))
  have lF : Fr g' L' h' (kstB (fun _ => none) [(Str.ofString "text", .str xa ta)]) := F'
  clear F'
  have hlx : xa.length ≤ 40 := by rw [← ls_len, hx, List.length_append]; simp; omega
  have h1 : @LE.le Nat _ 1 tk' := Nat.le_trans htk hle'
  k_with_none
  k_with "exec While" => refine Stop.out ?_
  k_with "LpQ" => first | refine lpQ_ret ?_ | refine lpQ_next ?_ | refine lpQ_brk ?_ | refine lpQ_cont ?_
  k_with "LpPost" => first | refine lpPost_ret ?_ | refine lpPost_next ?_ | refine lpPost_brk ?_ | refine lpPost_cont ?_
  k_with "go" => repeat' (first | (k_unfold; (try dsimp only)) | walk1 | (dsimp only; walk1) | (leave1; try dsimp only))
  k_with "hr" => (intro z h2 h3; (simp only [List.forall_mem_cons, List.not_mem_nil, false_implies, implies_true, and_true, ne_eq] at h2); (simp only [List.contains_cons, List.contains_nil, Bool.or_false, Bool.or_eq_false_iff, beq_eq_false_iff_ne, ne_eq] at h3); (simp [kstB, h2, h3]; done))
  k_with "lp" => ((case hF => assumption); (case hk => kst_all); (case hN => assumption); (case hs => kstt_sub); (case hr => k_extra "hr"))
  k_with "subscriptTail Name Slice str ref" => ((with_reducible show wpAny _ _ (subscriptTail _ (Expr.Slice none (some (Expr.BoolOp _ _ _)) none _) _ _) _ _ _); (rename Fr _ _ _ _ => lF'); (rename News _ _ _ _ => lN'); (try dsimp only); (refine slice_strN_nn (hsz := ?hsz) (s := ⟨_, _, _, _, _⟩) lF' lN' ?_); (case hsz => size_fits); intro _ _ _ _ _; (try rw [slice_nn]))
  k_with "ite" => first | (refine ine_t (by omega) ?_) | (refine ine_f (by omega) ?_)
  k_with "exec For" => ((rename Fr _ _ _ _ => lF'); (with_unfolding_all refine' For_invVF lF' ?k1 ?k2 ?_; (case k1 => exact rfl); (case k2 => exact rfl); k_whole))
  k_with "pyIter ref" => refine Stop.out ?_
  have a38 := hasC_no s38 hx (notin_last hh (by decide) (by decide))
  have a60 := hasC_yes s60 hx (by simp)
  have a62 := hasC_no s62 hx (notin_last hh (by decide) (by decide))
  have a34 := hasC_no s34 hx (notin_last hh (by decide) (by decide))
  have a13 := hasC_no s13 hx (notin_last hh (by decide) (by decide))
  have a10 := hasC_no s10 hx (notin_last hh (by decide) (by decide))
  have a9 := hasC_no s9 hx (notin_last hh (by decide) (by decide))
  have hr := repl_lt hx (fun m => hh 60 m (by decide))
  generalize hx2 : tx (h ++ ltL) = x2 at hr hret
  have hx2' : lsT x2 = h ++ ltL := by rw [← hx2]
  have b60 := hasC_no s60 hx2' (notin_ref hh (by decide) (by decide))
  have b62 := hasC_no s62 hx2' (notin_ref hh (by decide) (by decide))
  have b34 := hasC_no s34 hx2' (notin_ref hh (by decide) (by decide))
  have b13 := hasC_no s13 hx2' (notin_ref hh (by decide) (by decide))
  have b10 := hasC_no s10 hx2' (notin_ref hh (by decide) (by decide))
  have b9 := hasC_no s9 hx2' (notin_ref hh (by decide) (by decide))
  k_with "repl" => ((refine wpAny_of_toks ?_); (refine SC.replaceW (by show @Ne Nat _ 0; omega) (by show @Ne Nat _ 0; omega) (by show @Ne Nat _ _; omega) (by decide) (by omega) (by decide) ?_); intro t5 k5 h5; (try dsimp only at h5); rw [hr])
  k_with "ite" => with_reducible first | refine ifb_f a38 ?_ | refine ifb_t a60 ?_ | refine ifb_f a62 ?_ | refine ifb_f a34 ?_ | refine ifb_f a13 ?_ | refine ifb_f a10 ?_ | refine ifb_f a9 ?_ | refine ifb_f b60 ?_ | refine ifb_f b62 ?_ | refine ifb_f b34 ?_ | refine ifb_f b13 ?_ | refine ifb_f b10 ?_ | refine ifb_f b9 ?_
  k_extra "go"
  exact retS hret rfl (by assumption) (by assumption) (fun p hp => hp)
theorem c_esc115g (w : World) (mean : ExcName → Option Value) (mg mb : Str → Option Value) (news : List (Addr × Obj)) (xa : Str) (ta : Tok) (h : List Nat)
   (hx : lsT xa = h ++ [62]) (hh : ∀ c ∈ h, c ∉ spec7) (hl : h.length ≤ 4) :
   Cl w mean mg mb 115 news 2 [.str xa ta] (fun h₀ L m s Q => @LE.le Nat _ 1 s.toks ∧ RetS news (tx (h ++ gtL)) h₀ L m s Q) := by
  w_top off
  unfold Cl
  k_fill
  intro dp un gd cn cs a1 ccd cl outer A₀ base h₀ L m s Q E B F X N T hk hdp hu hret
  obtain ⟨htk, hret⟩ := hret
  refine wpAny_call ?_
  k_dflt (refine' code_defCT ?k1 ?k2 ?k3 ?k4 ?k5 ?kA ?kF ?kK ?k6 ?k7 ?k8 ?k9 ?kB ?kD ?_ ?c2 ?c3 ?c4; (case kA => exact rfl); (case kF => exact rfl); (case kK => assumption); (case k1 => k_asm); (case k2 => k_asm); (case k3 => k_asm); (case k4 => k_asm); (case k5 => k_asm); (case k6 => k_is); (case k7 => k_is); (case k8 => ktr_room); (case k9 => exact BindsTo.of_eq rfl); (case kB => exact rfl); (case kD => decide +kernel); (case c2 => exact rfl); (case c3 => exact rfl); (case c4 => exact rfl); k_whole; intro g' L' h' tk' cells' hle' FG' F' N' Y' B' X' T' l1; (try k_lt l1); ((have Y2 : CellsAre _ [] cells' := Y'); (cases Y2)); (try simp only [List.cons_append, List.nil_append] at N'); (try dsimp only); (try k_lift B'); (try k_fold))
  have lF : Fr g' L' h' (kstB (fun _ => none) [(Str.ofString "text", .str xa ta)]) := F'
  clear F'
  have hlx : xa.length ≤ 40 := by rw [← ls_len, hx, List.length_append]; simp; omega
  have h1 : @LE.le Nat _ 1 tk' := Nat.le_trans htk hle'
  k_with_none
  k_with "exec While" => refine Stop.out ?_
  k_with "LpQ" => first | refine lpQ_ret ?_ | refine lpQ_next ?_ | refine lpQ_brk ?_ | refine lpQ_cont ?_
  k_with "LpPost" => first | refine lpPost_ret ?_ | refine lpPost_next ?_ | refine lpPost_brk ?_ | refine lpPost_cont ?_
  k_with "go" => repeat' (first | (k_unfold; (try dsimp only)) | walk1 | (dsimp only; walk1) | (leave1; try dsimp only))
  k_with "hr" => (intro z h2 h3; (simp only [List.forall_mem_cons, List.not_mem_nil, false_implies, implies_true, and_true, ne_eq] at h2); (simp only [List.contains_cons, List.contains_nil, Bool.or_false, Bool.or_eq_false_iff, beq_eq_false_iff_ne, ne_eq] at h3); (simp [kstB, h2, h3]; done))
  k_with "lp" => ((case hF => assumption); (case hk => kst_all); (case hN => assumption); (case hs => kstt_sub); (case hr => k_extra "hr"))
  k_with "subscriptTail Name Slice str ref" => ((with_reducible show wpAny _ _ (subscriptTail _ (Expr.Slice none (some (Expr.BoolOp _ _ _)) none _) _ _) _ _ _); (rename Fr _ _ _ _ => lF'); (rename News _ _ _ _ => lN'); (try dsimp only); (refine slice_strN_nn (hsz := ?hsz) (s := ⟨_, _, _, _, _⟩) lF' lN' ?_); (case hsz => size_fits); intro _ _ _ _ _; (try rw [slice_nn]))
  k_with "ite" => first | (refine ine_t (by omega) ?_) | (refine ine_f (by omega) ?_)
  k_with "exec For" => ((rename Fr _ _ _ _ => lF'); (with_unfolding_all refine' For_invVF lF' ?k1 ?k2 ?_; (case k1 => exact rfl); (case k2 => exact rfl); k_whole))
  k_with "pyIter ref" => refine Stop.out ?_
  have a38 := hasC_no s38 hx (notin_last hh (by decide) (by decide))
  have a60 := hasC_no s60 hx (notin_last hh (by decide) (by decide))
  have a62 := hasC_yes s62 hx (by simp)
  have a34 := hasC_no s34 hx (notin_last hh (by decide) (by decide))
  have a13 := hasC_no s13 hx (notin_last hh (by decide) (by decide))
  have a10 := hasC_no s10 hx (notin_last hh (by decide) (by decide))
  have a9 := hasC_no s9 hx (notin_last hh (by decide) (by decide))
  have hr := repl_gt hx (fun m => hh 62 m (by decide))
  generalize hx2 : tx (h ++ gtL) = x2 at hr hret
  have hx2' : lsT x2 = h ++ gtL := by rw [← hx2]
  have b60 := hasC_no s60 hx2' (notin_ref hh (by decide) (by decide))
  have b62 := hasC_no s62 hx2' (notin_ref hh (by decide) (by decide))
  have b34 := hasC_no s34 hx2' (notin_ref hh (by decide) (by decide))
  have b13 := hasC_no s13 hx2' (notin_ref hh (by decide) (by decide))
  have b10 := hasC_no s10 hx2' (notin_ref hh (by decide) (by decide))
  have b9 := hasC_no s9 hx2' (notin_ref hh (by decide) (by decide))
  k_with "repl" => ((refine wpAny_of_toks ?_); (refine SC.replaceW (by show @Ne Nat _ 0; omega) (by show @Ne Nat _ 0; omega) (by show @Ne Nat _ _; omega) (by decide) (by omega) (by decide) ?_); intro t5 k5 h5; (try dsimp only at h5); rw [hr])
  k_with "ite" => with_reducible first | refine ifb_f a38 ?_ | refine ifb_f a60 ?_ | refine ifb_t a62 ?_ | refine ifb_f a34 ?_ | refine ifb_f a13 ?_ | refine ifb_f a10 ?_ | refine ifb_f a9 ?_ | refine ifb_f b60 ?_ | refine ifb_f b62 ?_ | refine ifb_f b34 ?_ | refine ifb_f b13 ?_ | refine ifb_f b10 ?_ | refine ifb_f b9 ?_
  k_extra "go"
  exact retS hret rfl (by assumption) (by assumption) (fun p hp => hp)
theorem c_esc122l (w : World) (mean : ExcName → Option Value) (mg mb : Str → Option Value) (news : List (Addr × Obj)) (xa : Str) (ta : Tok) (h : List Nat)
   (hx : lsT xa = h ++ [60]) (hh : ∀ c ∈ h, c ∉ spec7) (hl : h.length ≤ 4) :
   Cl w mean mg mb 122 news 2 [.str xa ta] (fun h₀ L m s Q => @LE.le Nat _ 1 s.toks ∧ RetS news (tx (h ++ ltL)) h₀ L m s Q) := by
  w_top off
  unfold Cl
  k_fill
  intro dp un gd cn cs a1 ccd cl outer A₀ base h₀ L m s Q E B F X N T hk hdp hu hret
  obtain ⟨htk, hret⟩ := hret
  refine wpAny_call ?_
  k_dflt (refine' code_defCT ?k1 ?k2 ?k3 ?k4 ?k5 ?kA ?kF ?kK ?k6 ?k7 ?k8 ?k9 ?kB ?kD ?_ ?c2 ?c3 ?c4; (case kA => exact rfl); (case kF => exact rfl); (case kK => assumption); (case k1 => k_asm); (case k2 => k_asm); (case k3 => k_asm); (case k4 => k_asm); (case k5 => k_asm); (case k6 => k_is); (case k7 => k_is); (case k8 => ktr_room); (case k9 => exact BindsTo.of_eq rfl); (case kB => exact rfl); (case kD => decide +kernel); (case c2 => exact rfl); (case c3 => exact rfl); (case c4 => exact rfl); k_whole; intro g' L' h' tk' cells' hle' FG' F' N' Y' B' X' T' l1; (try k_lt l1); ((have Y2 : CellsAre _ [] cells' := Y'); (cases Y2)); (try simp only [List.cons_append, List.nil_append] at N'); (try dsimp only); (try k_lift B'); (try k_fold))
  have lF : Fr g' L' h' (kstB (fun _ => none) [(Str.ofString "text", .str xa ta)]) := F'
  clear F'
  have hlx : xa.length ≤ 40 := by rw [← ls_len, hx, List.length_append]; simp; omega
  have h1 : @LE.le Nat _ 1 tk' := Nat.le_trans htk hle'
  k_with_none
  k_with "exec While" => refine Stop.out ?_
  k_with "LpQ" => first | refine lpQ_ret ?_ | refine lpQ_next ?_ | refine lpQ_brk ?_ | refine lpQ_cont ?_
  k_with "LpPost" => first | refine lpPost_ret ?_ | refine lpPost_next ?_ | refine lpPost_brk ?_ | refine lpPost_cont ?_
  k_with "go" => repeat' (first | (k_unfold; (try dsimp only)) | walk1 | (dsimp only; walk1) | (leave1; try dsimp only))
  k_with "hr" => (intro z h2 h3; (simp only [List.forall_mem_cons, List.not_mem_nil, false_implies, implies_true, and_true, ne_eq] at h2); (simp only [List.contains_cons, List.contains_nil, Bool.or_false, Bool.or_eq_false_iff, beq_eq_false_iff_ne, ne_eq] at h3); (simp [kstB, h2, h3]; done))
  k_with "lp" => ((case hF => assumption); (case hk => kst_all); (case hN => assumption); (case hs => kstt_sub); (case hr => k_extra "hr"))
  k_with "subscriptTail Name Slice str ref" => ((with_reducible show wpAny _ _ (subscriptTail _ (Expr.Slice none (some (Expr.BoolOp _ _ _)) none _) _ _) _ _ _); (rename Fr _ _ _ _ => lF'); (rename News _ _ _ _ => lN'); (try dsimp only); (refine slice_strN_nn (hsz := ?hsz) (s := ⟨_, _, _, _, _⟩) lF' lN' ?_); (case hsz => size_fits); intro _ _ _ _ _; (try rw [slice_nn]))
  k_with "ite" => first | (refine ine_t (by omega) ?_) | (refine ine_f (by omega) ?_)
  k_with "exec For" => ((rename Fr _ _ _ _ => lF'); (with_unfolding_all refine' For_invVF lF' ?k1 ?k2 ?_; (case k1 => exact rfl); (case k2 => exact rfl); k_whole))
  k_with "pyIter ref" => refine Stop.out ?_
  have a38 := hasC_no s38 hx (notin_last hh (by decide) (by decide))
  have a60 := hasC_yes s60 hx (by simp)
  have a62 := hasC_no s62 hx (notin_last hh (by decide) (by decide))
  have a34 := hasC_no s34 hx (notin_last hh (by decide) (by decide))
  have a13 := hasC_no s13 hx (notin_last hh (by decide) (by decide))
  have a10 := hasC_no s10 hx (notin_last hh (by decide) (by decide))
  have a9 := hasC_no s9 hx (notin_last hh (by decide) (by decide))
  have hr := repl_lt hx (fun m => hh 60 m (by decide))
  generalize hx2 : tx (h ++ ltL) = x2 at hr hret
  have hx2' : lsT x2 = h ++ ltL := by rw [← hx2]
  have b60 := hasC_no s60 hx2' (notin_ref hh (by decide) (by decide))
  have b62 := hasC_no s62 hx2' (notin_ref hh (by decide) (by decide))
  have b34 := hasC_no s34 hx2' (notin_ref hh (by decide) (by decide))
  have b13 := hasC_no s13 hx2' (notin_ref hh (by decide) (by decide))
  have b10 := hasC_no s10 hx2' (notin_ref hh (by decide) (by decide))
  have b9 := hasC_no s9 hx2' (notin_ref hh (by decide) (by decide))
  k_with "repl" => ((refine wpAny_of_toks ?_); (refine SC.replaceW (by show @Ne Nat _ 0; omega) (by show @Ne Nat _ 0; omega) (by show @Ne Nat _ _; omega) (by decide) (by omega) (by decide) ?_); intro t5 k5 h5; (try dsimp only at h5); rw [hr])
  k_with "ite" => with_reducible first | refine ifb_f a38 ?_ | refine ifb_t a60 ?_ | refine ifb_f a62 ?_ | refine ifb_f a34 ?_ | refine ifb_f a13 ?_ | refine ifb_f a10 ?_ | refine ifb_f a9 ?_ | refine ifb_f b60 ?_ | refine ifb_f b62 ?_ | refine ifb_f b34 ?_ | refine ifb_f b13 ?_ | refine ifb_f b10 ?_ | refine ifb_f b9 ?_
  k_extra "go"
  exact retS hret rfl (by assumption) (by assumption) (fun p hp => hp)
theorem c_esc122g (w : World) (mean : ExcName → Option Value) (mg mb : Str → Option Value) (news : List (Addr × Obj)) (xa : Str) (ta : Tok) (h : List Nat)
   (hx : lsT xa = h ++ [62]) (hh : ∀ c ∈ h, c ∉ spec7) (hl : h.length ≤ 4) :
   Cl w mean mg mb 122 news 2 [.str xa ta] (fun h₀ L m s Q => @LE.le Nat _ 1 s.toks ∧ RetS news (tx (h ++ [62])) h₀ L m s Q) := by
  w_top off
  unfold Cl
  k_fill
  intro dp un gd cn cs a1 ccd cl outer A₀ base h₀ L m s Q E B F X N T hk hdp hu hret
  obtain ⟨htk, hret⟩ := hret
  refine wpAny_call ?_
  k_dflt (refine' code_defCT ?k1 ?k2 ?k3 ?k4 ?k5 ?kA ?kF ?kK ?k6 ?k7 ?k8 ?k9 ?kB ?kD ?_ ?c2 ?c3 ?c4; (case kA => exact rfl); (case kF => exact rfl); (case kK => assumption); (case k1 => k_asm); (case k2 => k_asm); (case k3 => k_asm); (case k4 => k_asm); (case k5 => k_asm); (case k6 => k_is); (case k7 => k_is); (case k8 => ktr_room); (case k9 => exact BindsTo.of_eq rfl); (case kB => exact rfl); (case kD => decide +kernel); (case c2 => exact rfl); (case c3 => exact rfl); (case c4 => exact rfl); k_whole; intro g' L' h' tk' cells' hle' FG' F' N' Y' B' X' T' l1; (try k_lt l1); ((have Y2 : CellsAre _ [] cells' := Y'); (cases Y2)); (try simp only [List.cons_append, List.nil_append] at N'); (try dsimp only); (try k_lift B'); (try k_fold))
  have lF : Fr g' L' h' (kstB (fun _ => none) [(Str.ofString "text", .str xa ta)]) := F'
  clear F'
  have hlx : xa.length ≤ 40 := by rw [← ls_len, hx, List.length_append]; simp; omega
  have h1 : @LE.le Nat _ 1 tk' := Nat.le_trans htk hle'
  k_with_none
  k_with "exec While" => refine Stop.out ?_
  k_with "LpQ" => first | refine lpQ_ret ?_ | refine lpQ_next ?_ | refine lpQ_brk ?_ | refine lpQ_cont ?_
  k_with "LpPost" => first | refine lpPost_ret ?_ | refine lpPost_next ?_ | refine lpPost_brk ?_ | refine lpPost_cont ?_
  k_with "go" => repeat' (first | (k_unfold; (try dsimp only)) | walk1 | (dsimp only; walk1) | (leave1; try dsimp only))
  k_with "hr" => (intro z h2 h3; (simp only [List.forall_mem_cons, List.not_mem_nil, false_implies, implies_true, and_true, ne_eq] at h2); (simp only [List.contains_cons, List.contains_nil, Bool.or_false, Bool.or_eq_false_iff, beq_eq_false_iff_ne, ne_eq] at h3); (simp [kstB, h2, h3]; done))
  k_with "lp" => ((case hF => assumption); (case hk => kst_all); (case hN => assumption); (case hs => kstt_sub); (case hr => k_extra "hr"))
  k_with "subscriptTail Name Slice str ref" => ((with_reducible show wpAny _ _ (subscriptTail _ (Expr.Slice none (some (Expr.BoolOp _ _ _)) none _) _ _) _ _ _); (rename Fr _ _ _ _ => lF'); (rename News _ _ _ _ => lN'); (try dsimp only); (refine slice_strN_nn (hsz := ?hsz) (s := ⟨_, _, _, _, _⟩) lF' lN' ?_); (case hsz => size_fits); intro _ _ _ _ _; (try rw [slice_nn]))
  k_with "ite" => first | (refine ine_t (by omega) ?_) | (refine ine_f (by omega) ?_)
  k_with "exec For" => ((rename Fr _ _ _ _ => lF'); (with_unfolding_all refine' For_invVF lF' ?k1 ?k2 ?_; (case k1 => exact rfl); (case k2 => exact rfl); k_whole))
  k_with "pyIter ref" => refine Stop.out ?_
  have a38 := hasC_no s38 hx (notin_last hh (by decide) (by decide))
  have a60 := hasC_no s60 hx (notin_last hh (by decide) (by decide))
  have a62 := hasC_yes s62 hx (by simp)
  have a34 := hasC_no s34 hx (notin_last hh (by decide) (by decide))
  have a13 := hasC_no s13 hx (notin_last hh (by decide) (by decide))
  have a10 := hasC_no s10 hx (notin_last hh (by decide) (by decide))
  have a9 := hasC_no s9 hx (notin_last hh (by decide) (by decide))
  k_with "ite" => with_reducible first | refine ifb_f a38 ?_ | refine ifb_f a60 ?_ | refine ifb_t a62 ?_ | refine ifb_f a34 ?_ | refine ifb_f a13 ?_ | refine ifb_f a10 ?_ | refine ifb_f a9 ?_
  k_extra "go"
  exact retS hret (by rw [← hx, tx_ls]) (by assumption) (by assumption) (fun p hp => hp)
theorem c_esc108l (w : World) (mean : ExcName → Option Value) (mg mb : Str → Option Value) (news : List (Addr × Obj)) (xa : Str) (ta : Tok) (h : List Nat)
   (hx : lsT xa = h ++ [60]) (hh : ∀ c ∈ h, c ∉ spec7) (hl : h.length ≤ 4) :
   Cl w mean mg mb 108 news 2 [.str xa ta] (fun h₀ L m s Q => @LE.le Nat _ 1 s.toks ∧ RetS news (tx (h ++ [60])) h₀ L m s Q) := by
  w_top off
  unfold Cl
  k_fill
  intro dp un gd cn cs a1 ccd cl outer A₀ base h₀ L m s Q E B F X N T hk hdp hu hret
  obtain ⟨htk, hret⟩ := hret
  refine wpAny_call ?_
  k_dflt (refine' code_defCT ?k1 ?k2 ?k3 ?k4 ?k5 ?kA ?kF ?kK ?k6 ?k7 ?k8 ?k9 ?kB ?kD ?_ ?c2 ?c3 ?c4; (case kA => exact rfl); (case kF => exact rfl); (case kK => assumption); (case k1 => k_asm); (case k2 => k_asm); (case k3 => k_asm); (case k4 => k_asm); (case k5 => k_asm); (case k6 => k_is); (case k7 => k_is); (case k8 => ktr_room); (case k9 => exact BindsTo.of_eq rfl); (case kB => exact rfl); (case kD => decide +kernel); (case c2 => exact rfl); (case c3 => exact rfl); (case c4 => exact rfl); k_whole; intro g' L' h' tk' cells' hle' FG' F' N' Y' B' X' T' l1; (try k_lt l1); ((have Y2 : CellsAre _ [] cells' := Y'); (cases Y2)); (try simp only [List.cons_append, List.nil_append] at N'); (try dsimp only); (try k_lift B'); (try k_fold))
  have lF : Fr g' L' h' (kstB (fun _ => none) [(Str.ofString "text", .str xa ta)]) := F'
  clear F'
  have hlx : xa.length ≤ 40 := by rw [← ls_len, hx, List.length_append]; simp; omega
  have h1 : @LE.le Nat _ 1 tk' := Nat.le_trans htk hle'
  k_with_none
  k_with "exec While" => refine Stop.out ?_
  k_with "LpQ" => first | refine lpQ_ret ?_ | refine lpQ_next ?_ | refine lpQ_brk ?_ | refine lpQ_cont ?_
  k_with "LpPost" => first | refine lpPost_ret ?_ | refine lpPost_next ?_ | refine lpPost_brk ?_ | refine lpPost_cont ?_
  k_with "go" => repeat' (first | (k_unfold; (try dsimp only)) | walk1 | (dsimp only; walk1) | (leave1; try dsimp only))
  k_with "hr" => (intro z h2 h3; (simp only [List.forall_mem_cons, List.not_mem_nil, false_implies, implies_true, and_true, ne_eq] at h2); (simp only [List.contains_cons, List.contains_nil, Bool.or_false, Bool.or_eq_false_iff, beq_eq_false_iff_ne, ne_eq] at h3); (simp [kstB, h2, h3]; done))
  k_with "lp" => ((case hF => assumption); (case hk => kst_all); (case hN => assumption); (case hs => kstt_sub); (case hr => k_extra "hr"))
  k_with "subscriptTail Name Slice str ref" => ((with_reducible show wpAny _ _ (subscriptTail _ (Expr.Slice none (some (Expr.BoolOp _ _ _)) none _) _ _) _ _ _); (rename Fr _ _ _ _ => lF'); (rename News _ _ _ _ => lN'); (try dsimp only); (refine slice_strN_nn (hsz := ?hsz) (s := ⟨_, _, _, _, _⟩) lF' lN' ?_); (case hsz => size_fits); intro _ _ _ _ _; (try rw [slice_nn]))
  k_with "ite" => first | (refine ine_t (by omega) ?_) | (refine ine_f (by omega) ?_)
  k_with "exec For" => ((rename Fr _ _ _ _ => lF'); (with_unfolding_all refine' For_invVF lF' ?k1 ?k2 ?_; (case k1 => exact rfl); (case k2 => exact rfl); k_whole))
  k_with "pyIter ref" => refine Stop.out ?_
  have a38 := hasC_no s38 hx (notin_last hh (by decide) (by decide))
  have a60 := hasC_yes s60 hx (by simp)
  have a62 := hasC_no s62 hx (notin_last hh (by decide) (by decide))
  have a34 := hasC_no s34 hx (notin_last hh (by decide) (by decide))
  have a13 := hasC_no s13 hx (notin_last hh (by decide) (by decide))
  have a10 := hasC_no s10 hx (notin_last hh (by decide) (by decide))
  have a9 := hasC_no s9 hx (notin_last hh (by decide) (by decide))
  k_with "ite" => with_reducible first | refine ifb_f a38 ?_ | refine ifb_t a60 ?_ | refine ifb_f a62 ?_ | refine ifb_f a34 ?_ | refine ifb_f a13 ?_ | refine ifb_f a10 ?_ | refine ifb_f a9 ?_
  k_extra "go"
  exact retS hret (by rw [← hx, tx_ls]) (by assumption) (by assumption) (fun p hp => hp)
theorem c_esc108g (w : World) (mean : ExcName → Option Value) (mg mb : Str → Option Value) (news : List (Addr × Obj)) (xa : Str) (ta : Tok) (h : List Nat)
   (hx : lsT xa = h ++ [62]) (hh : ∀ c ∈ h, c ∉ spec7) (hl : h.length ≤ 4) :
   Cl w mean mg mb 108 news 2 [.str xa ta] (fun h₀ L m s Q => @LE.le Nat _ 1 s.toks ∧ RetS news (tx (h ++ gtL)) h₀ L m s Q) := by
  w_top off
  unfold Cl
  k_fill
  intro dp un gd cn cs a1 ccd cl outer A₀ base h₀ L m s Q E B F X N T hk hdp hu hret
  obtain ⟨htk, hret⟩ := hret
  refine wpAny_call ?_
  k_dflt (refine' code_defCT ?k1 ?k2 ?k3 ?k4 ?k5 ?kA ?kF ?kK ?k6 ?k7 ?k8 ?k9 ?kB ?kD ?_ ?c2 ?c3 ?c4; (case kA => exact rfl); (case kF => exact rfl); (case kK => assumption); (case k1 => k_asm); (case k2 => k_asm); (case k3 => k_asm); (case k4 => k_asm); (case k5 => k_asm); (case k6 => k_is); (case k7 => k_is); (case k8 => ktr_room); (case k9 => exact BindsTo.of_eq rfl); (case kB => exact rfl); (case kD => decide +kernel); (case c2 => exact rfl); (case c3 => exact rfl); (case c4 => exact rfl); k_whole; intro g' L' h' tk' cells' hle' FG' F' N' Y' B' X' T' l1; (try k_lt l1); ((have Y2 : CellsAre _ [] cells' := Y'); (cases Y2)); (try simp only [List.cons_append, List.nil_append] at N'); (try dsimp only); (try k_lift B'); (try k_fold))
  have lF : Fr g' L' h' (kstB (fun _ => none) [(Str.ofString "text", .str xa ta)]) := F'
  clear F'
  have hlx : xa.length ≤ 40 := by rw [← ls_len, hx, List.length_append]; simp; omega
  have h1 : @LE.le Nat _ 1 tk' := Nat.le_trans htk hle'
  k_with_none
  k_with "exec While" => refine Stop.out ?_
  k_with "LpQ" => first | refine lpQ_ret ?_ | refine lpQ_next ?_ | refine lpQ_brk ?_ | refine lpQ_cont ?_
  k_with "LpPost" => first | refine lpPost_ret ?_ | refine lpPost_next ?_ | refine lpPost_brk ?_ | refine lpPost_cont ?_
  k_with "go" => repeat' (first | (k_unfold; (try dsimp only)) | walk1 | (dsimp only; walk1) | (leave1; try dsimp only))
  k_with "hr" => (intro z h2 h3; (simp only [List.forall_mem_cons, List.not_mem_nil, false_implies, implies_true, and_true, ne_eq] at h2); (simp only [List.contains_cons, List.contains_nil, Bool.or_false, Bool.or_eq_false_iff, beq_eq_false_iff_ne, ne_eq] at h3); (simp [kstB, h2, h3]; done))
  k_with "lp" => ((case hF => assumption); (case hk => kst_all); (case hN => assumption); (case hs => kstt_sub); (case hr => k_extra "hr"))
  k_with "subscriptTail Name Slice str ref" => ((with_reducible show wpAny _ _ (subscriptTail _ (Expr.Slice none (some (Expr.BoolOp _ _ _)) none _) _ _) _ _ _); (rename Fr _ _ _ _ => lF'); (rename News _ _ _ _ => lN'); (try dsimp only); (refine slice_strN_nn (hsz := ?hsz) (s := ⟨_, _, _, _, _⟩) lF' lN' ?_); (case hsz => size_fits); intro _ _ _ _ _; (try rw [slice_nn]))
  k_with "ite" => first | (refine ine_t (by omega) ?_) | (refine ine_f (by omega) ?_)
  k_with "exec For" => ((rename Fr _ _ _ _ => lF'); (with_unfolding_all refine' For_invVF lF' ?k1 ?k2 ?_; (case k1 => exact rfl); (case k2 => exact rfl); k_whole))
  k_with "pyIter ref" => refine Stop.out ?_
  have a38 := hasC_no s38 hx (notin_last hh (by decide) (by decide))
  have a60 := hasC_no s60 hx (notin_last hh (by decide) (by decide))
  have a62 := hasC_yes s62 hx (by simp)
  have a34 := hasC_no s34 hx (notin_last hh (by decide) (by decide))
  have a13 := hasC_no s13 hx (notin_last hh (by decide) (by decide))
  have a10 := hasC_no s10 hx (notin_last hh (by decide) (by decide))
  have a9 := hasC_no s9 hx (notin_last hh (by decide) (by decide))
  have hr := repl_gt hx (fun m => hh 62 m (by decide))
  generalize hx2 : tx (h ++ gtL) = x2 at hr hret
  have hx2' : lsT x2 = h ++ gtL := by rw [← hx2]
  have b60 := hasC_no s60 hx2' (notin_ref hh (by decide) (by decide))
  have b62 := hasC_no s62 hx2' (notin_ref hh (by decide) (by decide))
  have b34 := hasC_no s34 hx2' (notin_ref hh (by decide) (by decide))
  have b13 := hasC_no s13 hx2' (notin_ref hh (by decide) (by decide))
  have b10 := hasC_no s10 hx2' (notin_ref hh (by decide) (by decide))
  have b9 := hasC_no s9 hx2' (notin_ref hh (by decide) (by decide))
  k_with "repl" => ((refine wpAny_of_toks ?_); (refine SC.replaceW (by show @Ne Nat _ 0; omega) (by show @Ne Nat _ 0; omega) (by show @Ne Nat _ _; omega) (by decide) (by omega) (by decide) ?_); intro t5 k5 h5; (try dsimp only at h5); rw [hr])
  k_with "ite" => with_reducible first | refine ifb_f a38 ?_ | refine ifb_f a60 ?_ | refine ifb_t a62 ?_ | refine ifb_f a34 ?_ | refine ifb_f a13 ?_ | refine ifb_f a10 ?_ | refine ifb_f a9 ?_ | refine ifb_f b60 ?_ | refine ifb_f b62 ?_ | refine ifb_f b34 ?_ | refine ifb_f b13 ?_ | refine ifb_f b10 ?_ | refine ifb_f b9 ?_
  k_extra "go"
  exact retS hret rfl (by assumption) (by assumption) (fun p hp => hp)
end
end Mine
end

section
open PySem PySem.W PySem.Calls PyProof.Rows
set_option Elab.async false
namespace Mine
local macro_rules | `(tactic| omega) => `(tactic| first | decide | lia)
set_option maxRecDepth 100000
abbrev mN (a b : Nat) : Nat := if b < a then b else a
section
variable {α : Type} [DecidableEq α] (sub : α → α → Nat)
noncomputable def cpG : List α → List α → List α × List α
  | x :: a, y :: b => if x = y then cpG a b else (x :: a, y :: b)
  | a, b => (a, b)
noncomputable def inG (c : α) : List α → List Nat → Nat → Nat → Nat → List Nat × Nat × Nat
  | x :: as, r :: rs, d, res, mn =>
    let res' := mN (mN res r + 2) (d + sub c x)
    let p := inG c as rs r res' (if res' < mn then res' else mn)
    (res' :: p.1, p.2)
  | _, _, _, res, mn => ([], res, mn)
noncomputable def levOG (mx : Nat) (a : List α) : List α → Nat → List Nat → Nat → Nat
  | [], _, _, res => res
  | c :: bs, j, row, _ =>
    let p := inG sub c a row (2 * j) (2 * j) 9223372036854775807
    if mx < p.2.2 then mx + 1 else levOG mx a bs (j + 1) p.1 p.2.1
noncomputable def row0G (n : Nat) : List Nat := (List.range n).map fun i => 2 * (i + 1)
noncomputable def levNG (a b : List α) (mx : Nat) : Nat := if mx < (b.length - a.length) * 2 then mx + 1 else levOG sub mx a b 0 (row0G a.length) 0
noncomputable def levMG (a b : List α) (mx : Nat) : Nat :=
  if a.isEmpty || b.isEmpty then 2 * (a.length + b.length) else if b.length < a.length then levNG sub b a mx else levNG sub a b mx
noncomputable def levG (a b : List α) (mx : Nat) : Nat :=
  let p := cpG a b
  let q := cpG p.1.reverse p.2.reverse
  levMG sub q.1.reverse q.2.reverse mx
variable {sub} {f : α → Nat} (hf : ∀ x y, f x = f y ↔ x = y) (hs : ∀ x y, subN (f x) (f y) = ((sub x y : Nat) : Int))
include hf in
theorem cpG_map : ∀ a b : List α, cp (a.map f) (b.map f) = ((cpG a b).1.map f, (cpG a b).2.map f)
  | [], b => by rw [List.map_nil, cp_nil_l]; cases b <;> rfl
  | x :: a, [] => by rw [List.map_nil, cp_nil_r]; rfl
  | x :: a, y :: b => by
    rw [List.map_cons, List.map_cons, cp, cpG]
    by_cases h : x = y
    · rw [if_pos h, if_pos ((hf x y).mpr h)]; exact cpG_map a b
    · rw [if_neg h, if_neg (fun e => h ((hf x y).mp e))]; rfl
abbrev toI : List Nat → List Int := List.map fun (k : Nat) => (k : Int)
theorem mi_nat (a b : Nat) : mi (a : Int) (b : Int) = ((mN a b : Nat) : Int) := by
  unfold mi mN
  split <;> split <;> omega
include hs in
theorem inG_map (c : α) : ∀ (as : List α) (rs : List Nat) (d res mn : Nat), inR (f c) (as.map f) (toI rs) d res mn = (toI (inG sub c as rs d res mn).1, ((inG sub c as rs d res mn).2.1 : Int), ((inG sub c as rs d res mn).2.2 : Int))
  | [], rs, d, res, mn => by cases rs <;> rfl
  | x :: as, [], d, res, mn => rfl
  | x :: as, r :: rs, d, res, mn => by
    rw [List.map_cons, toI, List.map_cons, inR, inG]
    have e1 : mi (mi (res : Int) (r : Int) + 2) ((d : Int) + subN (f c) (f x)) = ((mN (mN res r + 2) (d + sub c x) : Nat) : Int) := by
      rw [hs, mi_nat, show ((mN res r : Nat) : Int) + 2 = ((mN res r + 2 : Nat) : Int) by omega, show (d : Int) + ((sub c x : Nat) : Int) = ((d + sub c x : Nat) : Int) by omega, mi_nat]
    have e2 : (if ((mN (mN res r + 2) (d + sub c x) : Nat) : Int) < (mn : Int) then ((mN (mN res r + 2) (d + sub c x) : Nat) : Int) else (mn : Int)) = ((if mN (mN res r + 2) (d + sub c x) < mn then mN (mN res r + 2) (d + sub c x) else mn : Nat) : Int) := by
      split <;> split <;> omega
    dsimp only
    rw [e1, e2, inG_map c as rs]
    rfl
include hs in
theorem levOG_map (mx : Nat) (a : List α) : ∀ (b : List α) (j : Nat) (row : List Nat) (res : Nat), levO mx (a.map f) (b.map f) j (toI row) res = ((levOG sub mx a b j row res : Nat) : Int)
  | [], _, _, _ => rfl
  | c :: bs, j, row, res => by
    rw [List.map_cons, levO, levOG]
    have h := inG_map (sub := sub) (f := f) hs c a row (2 * j) (2 * j) 9223372036854775807
    rw [show ((2 * j : Nat) : Int) = 2 * (j : Int) by omega] at h
    rw [show ((9223372036854775807 : Nat) : Int) = 9223372036854775807 from rfl] at h
    rw [h]
    dsimp only
    rw [levOG_map mx a bs]
    split <;> split <;> first | rfl | omega
theorem row0G_map (n : Nat) : row0 n = toI (row0G n) := by
  unfold row0 row0G toI
  rw [List.map_map]
  exact List.map_congr_left fun i _ => by simp
include hs in
theorem levNG_map (a b : List α) (mx : Nat) (hl : a.length ≤ b.length) : levN (a.map f) (b.map f) mx = ((levNG sub a b mx : Nat) : Int) := by
  unfold levN levNG
  rw [List.length_map, List.length_map, row0G_map, show (0 : Int) = ((0 : Nat) : Int) from rfl, levOG_map hs]
  split <;> split <;> omega
include hs in
theorem levMG_map (a b : List α) (mx : Nat) : levM (a.map f) (b.map f) mx = ((levMG sub a b mx : Nat) : Int) := by
  unfold levM levMG
  cases a with
  | nil => simp
  | cons x a =>
    cases b with
    | nil => simp
    | cons y b =>
      rw [if_neg (by simp), List.length_map, List.length_map, show ((x :: a).isEmpty || (y :: b).isEmpty) = false from rfl, if_neg Bool.false_ne_true]
      by_cases h : (y :: b).length < (x :: a).length
      · rw [if_pos h, if_pos h, levNG_map hs _ _ _ (Nat.le_of_lt h)]
      · rw [if_neg h, if_neg h, levNG_map hs _ _ _ (by omega)]
include hf hs in
theorem levG_map (a b : List α) (mx : Nat) (hne : a ≠ b) : levL (a.map f) (b.map f) mx = ((levG sub a b mx : Nat) : Int) := by
  have inj : ∀ a b : List α, a.map f = b.map f → a = b := by
    intro a
    induction a with
    | nil => intro b h; cases b with | nil => rfl | cons y b => cases h
    | cons x a ih =>
      intro b h
      cases b with
      | nil => cases h
      | cons y b =>
        rw [List.map_cons, List.map_cons, List.cons.injEq] at h
        rw [(hf x y).mp h.1, ih b h.2]
  unfold levL levG
  rw [if_neg (fun e => hne (inj a b e)), cpG_map hf]
  dsimp only
  rw [← List.map_reverse, ← List.map_reverse, cpG_map hf]
  dsimp only
  rw [← List.map_reverse, ← List.map_reverse, levMG_map hs]
end

/-- the twelve signs: the letters small and great, the operator, < > & l t ; g -/
abbrev S12 := Fin 12
noncomputable def sub12 (x y : S12) : Nat := if Nat.beq x.val y.val then 0 else if (Nat.beq (x.val / 2) (y.val / 2) && Nat.blt x.val 4) then 1 else 2
noncomputable def refG (gt : Bool) : List S12 := if gt then [7, 11, 9, 10] else [7, 8, 9, 10]
noncomputable def endG (kind : Nat) (gt : Bool) : List S12 :=
  match kind, gt with
  | 0, g => refG g
  | 1, false => refG false
  | 1, true => [6]
  | _, false => [5]
  | _, true => refG true
noncomputable def lettG (T : Nat) : S12 := ⟨T / 2 % 4, by omega⟩
noncomputable def headG (ahead : Bool) (T : Nat) : List S12 :=
  if T % 2 = 1 then (if ahead then [4, lettG T] else [lettG T, 4]) else [lettG T]
noncomputable def pageG (kind : Nat) (ahead : Bool) (T : Nat) : List S12 := headG ahead T ++ endG kind (T / 8 % 2 = 1)
noncomputable def priceG (kind : Nat) (T : Nat) : Nat := 2 * (T % 2) + max (T / 2 % 2) (2 * (T / 4 % 2)) + (T / 8 % 2) * (if kind = 0 then 2 else 8)
noncomputable def wishG (kind : Nat) (wi : Nat) : Nat := if kind ≠ 0 ∧ 3 + wi > 4 then 3 + wi + 4 else 3 + wi
noncomputable def okG (kind : Nat) (ahead : Bool) (T U : Nat) : Bool :=
  (List.range 4).all fun wi => (List.range 4).all fun bi => Nat.beq (mN (levG sub12 (pageG kind ahead T) (pageG kind ahead U) (wishG kind wi - 1 + bi)) (wishG kind wi)) (mN (priceG kind (T ^^^ U)) (wishG kind wi))
set_option maxHeartbeats 4000000
theorem ok0t : ∀ T U : Fin 16, T ≠ U → okG 0 true T U = true := by decide +kernel
theorem ok0f : ∀ T U : Fin 16, T ≠ U → okG 0 false T U = true := by decide +kernel
theorem ok1t : ∀ T U : Fin 16, T ≠ U → okG 1 true T U = true := by decide +kernel
theorem ok2t : ∀ T U : Fin 16, T ≠ U → okG 2 true T U = true := by decide +kernel
theorem pageNe0t : ∀ T U : Fin 16, T ≠ U → pageG 0 true T ≠ pageG 0 true U := by decide +kernel
theorem pageNe0f : ∀ T U : Fin 16, T ≠ U → pageG 0 false T ≠ pageG 0 false U := by decide +kernel
theorem pageNe1t : ∀ T U : Fin 16, T ≠ U → pageG 1 true T ≠ pageG 1 true U := by decide +kernel
theorem pageNe2t : ∀ T U : Fin 16, T ≠ U → pageG 2 true T ≠ pageG 2 true U := by decide +kernel

/-- the letters and operators of the law -/
noncomputable def lets : List Nat := [97, 65, 98, 66, 99, 67, 100, 68, 101, 69, 102, 70, 104, 72, 107, 75, 110, 78, 114, 82]
noncomputable def ops : List Nat := [33, 37, 40, 41, 42, 43, 44, 45, 46, 47, 58, 61, 64, 91, 93, 94, 123, 124, 125, 126]
noncomputable def tab47 : List Nat := lets ++ ops ++ [60, 62, 38, 108, 116, 59, 103]
noncomputable def low (c : Nat) : Nat := if 65 ≤ c ∧ c ≤ 90 then c + 32 else c
theorem low47 : ∀ c ∈ tab47, Txt.lower (tx [c]) = tx [low c] := by decide +kernel
/-- the place of a sign of the twelve among the 47 -/
noncomputable def plc (one two sg : Nat) (x : S12) : Nat := if x.val < 2 then 2 * one + x.val else if x.val < 4 then 2 * two + (x.val - 2) else if x.val = 4 then 20 + sg else 35 + x.val
noncomputable def chrS (one two sg : Nat) (x : S12) : Nat := tab47.getD (plc one two sg x) 0
theorem tab47_inj : ∀ i j : Fin 47, tab47.getD i 0 = tab47.getD j 0 → i = j := by decide +kernel
theorem tab47_sub : ∀ i j : Fin 47, i ≠ j → (low (tab47.getD i 0) = low (tab47.getD j 0) ↔ (i.val / 2 = j.val / 2 ∧ i.val < 20)) := by decide +kernel
theorem sub2_mod {a : Nat} (h : a < 4) (h2 : ¬ a < 2) : a - 2 = a % 2 := by omega
theorem plc_lo {one two sg : Nat} {x : S12} (h : x.val < 4) : plc one two sg x = 2 * (if x.val < 2 then one else two) + x.val % 2 := by
  unfold plc
  split
  · rename_i h2
    rw [Nat.mod_eq_of_lt h2]
  · rename_i h2
    exact congrArg (2 * two + ·) (sub2_mod h h2)
theorem plc_hi {one two sg : Nat} {x : S12} (h : ¬ x.val < 4) : plc one two sg x = if x.val = 4 then 20 + sg else 35 + x.val := by
  unfold plc
  rw [if_neg (fun h2 => h (Nat.lt_trans h2 (by decide))), if_neg h]
theorem pick_lt {one two : Nat} (h1 : one < 10) (h2 : two < 10) (b : Prop) [Decidable b] : (if b then one else two) < 10 := by
  split
  · exact h1
  · exact h2
theorem half2 {q r : Nat} (h : r < 2) : (2 * q + r) / 2 = q ∧ (2 * q + r) % 2 = r := by omega
theorem plc_half {one two sg : Nat} {x : S12} (h : x.val < 4) : plc one two sg x / 2 = (if x.val < 2 then one else two) ∧ plc one two sg x % 2 = x.val % 2 := by
  rw [plc_lo h]
  exact half2 (Nat.mod_lt _ (by decide))
theorem lt20 {q r : Nat} (h : q < 10) (hr : r < 2) : 2 * q + r < 20 := by omega
theorem plc_20 {one two sg : Nat} (h1 : one < 10) (h2 : two < 10) {x : S12} : plc one two sg x < 20 ↔ x.val < 4 := by
  by_cases h : x.val < 4
  · rw [plc_lo h]
    exact ⟨fun _ => h, fun _ => lt20 (pick_lt h1 h2 _) (Nat.mod_lt _ (by decide))⟩
  · rw [plc_hi h]
    refine ⟨fun g => ?_, fun g => absurd g h⟩
    split at g
    · exact absurd g (Nat.not_lt.mpr (Nat.le_add_right _ _))
    · exact absurd g (Nat.not_lt.mpr (Nat.le_trans (by decide) (Nat.le_add_right _ _)))
theorem plc_lt {one two sg : Nat} (h1 : one < 10) (h2 : two < 10) (hs : sg < 20) (x : S12) : plc one two sg x < 47 := by
  by_cases h : x.val < 4
  · exact Nat.lt_trans ((plc_20 h1 h2).mpr h) (by decide)
  · rw [plc_hi h]
    split
    · exact Nat.lt_trans (Nat.add_lt_add_left hs 20) (by decide)
    · exact Nat.add_lt_add_left x.isLt 35
theorem pick_ne {one two a b : Nat} (hne : one ≠ two) (ha : a < 4) (hb : b < 4) : (if a < 2 then one else two) = (if b < 2 then one else two) ↔ a / 2 = b / 2 := by
  have e : ∀ c, c < 4 → (c / 2 = 0 ∧ c < 2 ∨ c / 2 = 1 ∧ ¬ c < 2) := by decide
  rcases e a ha with ⟨x, y⟩ | ⟨x, y⟩ <;> rcases e b hb with ⟨z, w⟩ | ⟨z, w⟩ <;> rw [x, z] <;> simp [y, w, hne, Ne.symm hne]
theorem val_half {a b : Nat} (h : a / 2 = b / 2) (g : a % 2 = b % 2) : a = b := by rw [← Nat.div_add_mod a 2, h, g, Nat.div_add_mod]
theorem hi_inj {sg : Nat} (hs : sg < 20) {a b : Nat} (ha : ¬ a < 4) (hb : ¬ b < 4) (h : (if a = 4 then 20 + sg else 35 + a) = (if b = 4 then 20 + sg else 35 + b)) : a = b := by
  split at h <;> split at h <;> omega
theorem plc_inj {one two sg : Nat} (h1 : one < 10) (h2 : two < 10) (hs : sg < 20) (hne : one ≠ two) {x y : S12} (h : plc one two sg x = plc one two sg y) : x = y := by
  refine Fin.ext ?_
  by_cases a : x.val < 4
  · have b : y.val < 4 := (plc_20 (sg := sg) h1 h2).mp (h ▸ (plc_20 (sg := sg) h1 h2).mpr a)
    have c := plc_half (one := one) (two := two) (sg := sg) a
    have d := plc_half (one := one) (two := two) (sg := sg) b
    rw [h] at c
    exact val_half ((pick_ne hne a b).mp (c.1.symm.trans d.1)) (c.2.symm.trans d.2)
  · have b : ¬ y.val < 4 := fun g => a ((plc_20 (sg := sg) h1 h2).mp (h ▸ (plc_20 (sg := sg) h1 h2).mpr g))
    rw [plc_hi a, plc_hi b] at h
    exact hi_inj hs a b h
theorem tab47_mem {i : Nat} (h : i < 47) : tab47.getD i 0 ∈ tab47 := by
  have hl : tab47.length = 47 := rfl
  rw [List.getD_eq_getElem?_getD, List.getElem?_eq_getElem (by omega)]
  exact List.getElem_mem _
theorem chrS_inj {one two sg : Nat} (h1 : one < 10) (h2 : two < 10) (hs : sg < 20) (hne : one ≠ two) (x y : S12) : chrS one two sg x = chrS one two sg y ↔ x = y := by
  constructor
  · intro h
    have := tab47_inj ⟨_, plc_lt h1 h2 hs x⟩ ⟨_, plc_lt h1 h2 hs y⟩ h
    exact plc_inj h1 h2 hs hne (congrArg Fin.val this)
  · intro h; rw [h]
theorem tx1_inj {c d : Nat} : tx [c] = tx [d] ↔ c = d := by
  constructor
  · intro e
    have := congrArg Str.cps e
    simpa using this
  · intro e; rw [e]
theorem half_lt {a b : Nat} (h : a / 2 = b / 2) (g : a < 20) : b < 20 := by omega
theorem half_lt4 {a b : Nat} (h : a / 2 = b / 2) (g : a < 4) : b < 4 := by omega
theorem chrS_sub {one two sg : Nat} (h1 : one < 10) (h2 : two < 10) (hs : sg < 20) (hne : one ≠ two) (x y : S12) : subN (chrS one two sg x) (chrS one two sg y) = ((sub12 x y : Nat) : Int) := by
  unfold subN subC
  have hx := plc_lt h1 h2 hs x
  have hy := plc_lt h1 h2 hs y
  by_cases e : x = y
  · subst e
    rw [if_pos rfl]
    unfold sub12
    rw [if_pos (by simp)]
    rfl
  · have en : ¬ tx [chrS one two sg x] = tx [chrS one two sg y] := fun h => e ((chrS_inj h1 h2 hs hne x y).mp (tx1_inj.mp h))
    have ne : x.val ≠ y.val := fun h => e (Fin.ext h)
    have pne : (⟨_, hx⟩ : Fin 47) ≠ ⟨_, hy⟩ := fun h => e (plc_inj h1 h2 hs hne (congrArg Fin.val h))
    have q := tab47_sub ⟨_, hx⟩ ⟨_, hy⟩ pne
    rw [if_neg en]
    unfold chrS
    rw [low47 _ (tab47_mem hx), low47 _ (tab47_mem hy)]
    dsimp only at q
    have n1 : ¬ Nat.beq x.val y.val = true := by simp [ne]
    unfold sub12
    rw [if_neg n1]
    have key : (tx [low (tab47.getD (plc one two sg x) 0)] = tx [low (tab47.getD (plc one two sg y) 0)]) ↔ ((Nat.beq (x.val / 2) (y.val / 2) && Nat.blt x.val 4) = true) := by
      rw [tx1_inj]
      refine q.trans ?_
      simp only [Bool.and_eq_true, Nat.beq_eq_true_eq, Nat.beq_eq, Nat.blt_eq]
      clear q
      rw [plc_20 h1 h2]
      constructor
      · rintro ⟨h3, h4⟩
        have h5 : y.val < 4 := (plc_20 (sg := sg) h1 h2).mp (half_lt h3 ((plc_20 h1 h2).mpr h4))
        rw [(plc_half h4).1, (plc_half h5).1] at h3
        exact ⟨(pick_ne hne h4 h5).mp h3, h4⟩
      · rintro ⟨h3, h4⟩
        have h5 : y.val < 4 := half_lt4 h3 h4
        rw [(plc_half h4).1, (plc_half h5).1]
        exact ⟨(pick_ne hne h4 h5).mpr h3, h4⟩
    by_cases k : (Nat.beq (x.val / 2) (y.val / 2) && Nat.blt x.val 4) = true
    · rw [if_pos k, if_pos (key.mpr k)]; rfl
    · rw [if_neg k, if_neg (fun h => k (key.mp h))]; rfl
end Mine
end

section
open PySem PySem.W PySem.Calls PyProof.Rows
set_option Elab.async false
namespace Mine
local macro_rules | `(tactic| omega) => `(tactic| first | decide | lia)
theorem kl_cut_at : ∀ (l : List Value) (k : Nat) (h : k < l.length), kl_cut l k = some (l.take k, l[k], l.drop (k + 1))
  | [], _, h => by simp at h
  | x :: r, 0, _ => rfl
  | x :: r, k + 1, h => by
    unfold kl_cut
    rw [kl_cut_at r k (by simpa using h)]
    rfl
theorem ints_erase : ∀ {us : List Value} {ns : List Int} (_ : IntsAre us ns) (k : Nat), IntsAre (us.eraseIdx k) (ns.eraseIdx k)
  | _, _, .nil, _ => .nil
  | _, _, .cons n t r, 0 => r
  | _, _, .cons n t r, k + 1 => .cons n t (ints_erase r k)
theorem pop_ints {prog : Program} {w : World} {A : Around} {E : Value → Shared → Prop} {s : Shared} {h₀ : Heap} {L D : Addr} {m : Str → Option Value} {news news' : List (Addr × Obj)} {us : List Value} {ns : List Int} {k n : Nat} {u : Tok} {Q : Value → Shared → Prop} (F : Fr h₀ L s.heap m) (N : News h₀ L s.heap news)
    (U : Upd D (listOf us.toArray n) (listOf (us.eraseIdx k).toArray (n + 1)) news news') (hi : IntsAre us ns) (hk : k < us.length) (hz : us.length ≤ 100)
    (h : ∀ h' t, Fr h₀ L h' m → News h₀ L h' news' → IntsAre (us.eraseIdx k) (ns.eraseIdx k) → (us.eraseIdx k).length + 1 = us.length → Q (.int (ns.getD k 0) t) { s with heap := h' }) :
    wpAny (model prog w) A (call (.builtin "list.pop") [.ref D, .int (k : Int) u]) Q E s := by
  obtain ⟨v, t, e, hy⟩ := IntsAre.at hi k _ (List.getElem?_eq_getElem hk)
  have hd : ns.getD k 0 = v := by rw [List.getD_eq_getElem?_getD, hy]; rfl
  have hlen : (us.eraseIdx k).length + 1 = us.length := by rw [List.length_eraseIdx_of_lt hk]; omega
  refine kl_popAt (its := us.toArray) (n := n) (news' := news') (p := us.take k) (q := us.drop (k + 1)) (y := us[k]) (k := k) F N ?_ ?_ ?_ ?_ ?_ ?_
  · unfold Builtin.List.listFitsIndex; simp; omega
  · rw [seqIndex_of (by omega) (by rw [List.size_toArray]; omega)]; simp
  · exact kl_cut_at us k hk
  · rw [← List.eraseIdx_eq_take_drop_succ]; exact U
  · show us.length ≤ sizeLine
    rw [sizeLine_eq]; omega
  · intro h' F' N'
    rw [e]
    have := h h' t F' N' (ints_erase hi k) hlen
    rw [hd] at this
    exact this
theorem pop_last {prog : Program} {w : World} {A : Around} {E : Value → Shared → Prop} {s : Shared} {h₀ : Heap} {L D : Addr} {m : Str → Option Value} {news news' : List (Addr × Obj)} {us : List Value} {ns : List Int} {n : Nat} {Q : Value → Shared → Prop} (F : Fr h₀ L s.heap m) (N : News h₀ L s.heap news)
    (U : Upd D (listOf us.toArray n) (listOf us.dropLast.toArray (n + 1)) news news') (hi : IntsAre us ns) (hk : 0 < us.length) (hz : us.length ≤ 100)
    (h : ∀ h' t, Fr h₀ L h' m → News h₀ L h' news' → IntsAre us.dropLast ns.dropLast → Q (.int (ns.getLastD 0) t) { s with heap := h' }) :
    wpAny (model prog w) A (call (.builtin "list.pop") [.ref D]) Q E s :=
  kpa_pop F N U hi hk (by rw [sizeLine_eq]; omega) h
end Mine
end

section
open PySem PySem.W PySem.Calls PyProof.Rows
set_option Elab.async false
namespace Mine
local macro_rules | `(tactic| omega) => `(tactic| first | decide | lia)
open PySem.Spec
theorem call_cellsNT {prog : Program} {w : World} {A : Around} {R : Result → Shared → Prop} {s : Shared} {name : Str} {params : Arguments} {body : List Stmt} {scope : Scope}
    {pm cd doc : Value} {a : Addr} {o : Obj} {args : List Value} {binds : List (Str × Value)}
    (hroom : A.depth < recursionLimit) (ho : s.heap.get? a = some o) (hdata : o.data = .func (Calls.docDef name params body scope pm cd doc)) (hlim : s.heap.NoLimit) (hcd : s.heap.CodeRec cd name)
    (hbind : bindArgs (Calls.docDef name params body scope pm cd doc) ⟨args, []⟩ = pure binds)
    (hkind : ∀ x ∈ binds, scope.names.lookup x.1 = some .local ∨ (scope.names.lookup x.1 = some .cell ∧ ((cellsFrom (s.heap.objs.size + 1) scope.names []).lookup x.1).isSome = true))
    (hnd : ((cellsFrom 0 scope.names []).map (·.1)).Nodup)
    (h : ∀ h₁ tk cells, s.toks ≤ tk → Fr s.heap s.heap.objs.size h₁ (bindL (envOfC name scope s.heap.objs.size a cd).kindOf binds fun _ => none) → News s.heap s.heap.objs.size h₁ cells →
      CellsAre (bindC (envOfC name scope s.heap.objs.size a cd).kindOf binds fun _ => none) (cellsFrom (s.heap.objs.size + 1) scope.names []) cells →
      wpAny (model prog w) (A.deeper (envOfC name scope s.heap.objs.size a cd)) (execs body (envOfC name scope s.heap.objs.size a cd))
        (fun f s' => R (.ok (.ret (match f with | .ret v => v | _ => .none))) s')
        (fun e s' => wpAny (model prog w) (A.deeper (envOfC name scope s.heap.objs.size a cd)) (leaving (envOfC name scope s.heap.objs.size a cd) e)
          (fun _ s'' => R (.error e) s'') (fun e' s'' => R (.error e') s'') s')
        { s with heap := h₁, toks := tk })
    (hco : scope.isCoroutine = false := by rfl) (hgen : scope.isGenerator = false := by rfl) (hk : scope.kind = .function := by rfl) :
    codeAny (model prog w) A (.call (.ref a) ⟨args, []⟩) R s := by
  refine codeAny_call_function hroom ho hdata hco hgen rfl hcd ?_
  rw [hbind]
  refine wpAny_pure (wpAny_of_toks (wpAny_newFunctionEnv_cells hk hkind fun env he s' x hle => ?_))
  subst he
  refine ⟨hlim.keeps x.toInCall.keep, codeAny_func ?_⟩
  obtain ⟨h₁, tk, rfl, _⟩ := x.done
  obtain ⟨cells, N, Y⟩ := Cl.news (h₀ := s.heap) (Nat.le_refl _) fun n c hm => ⟨x.cell n c (lookup_of_mem_nodup (cellsFrom_names scope.names 0 (s.heap.objs.size + 1) [] [] rfl ▸ hnd) hm), x.above n c hm⟩
  exact h h₁ tk cells hle ⟨x.toInCall.ns, x.toInCall.keep, x.toInCall.fresh⟩ N Y

/-- the tokens have reached n; a form that arithmetic does not look into -/
structure TkGe (n : Nat) (s : Shared) : Prop where
  out : n ≤ s.toks
theorem TkGe.up {n : Nat} {s s' : Shared} (x : TkGe n s) (h : s.toks ≤ s'.toks) : TkGe n s' := ⟨Nat.le_trans x.out h⟩
theorem tkge_of {X : Type} {M : Model} {A : Around} {Q : X → Shared → Prop} {E : Value → Shared → Prop} {t : Sem X} {s : Shared} {n : Nat} (hle : n ≤ s.toks) (k : TkGe n s → wpAny M A t Q E s) : wpAny M A t Q E s := k ⟨hle⟩
/-- a statement, and behind it the rest from any later token on: the sums of tokens do not grow from statement to statement -/
theorem execs_consL {M : Model} {A : Around} {s : Shared} {E : Value → Shared → Prop} {Q : Flow → Shared → Prop} {st : Stmt} {rest : List Stmt} {env : Env} {n : Nat} (x : TkGe n s)
    (h : wpAny M A (exec st env) (fun f s' => ∀ tk : Nat, s'.toks ≤ tk → TkGe n { s' with toks := tk } → (match f with | .next => wpAny M A (execs rest env) Q E { s' with toks := tk } | f => Q f { s' with toks := tk })) E s) : wpAny M A (execs (st :: rest) env) Q E s :=
  wpAny_execs_cons (wpAny_mono (wpAny_toks h) (fun _ s' q => q.1 s'.toks (Nat.le_refl _) (x.up q.2)) fun _ _ e => e.1)
section
variable {prog : Program} {w : World} {A : Around} {E : Value → Shared → Prop} {Q : Flow → Shared → Prop} {s : Shared} {env : Env} {h₀ : Heap} {L : Addr} {σ : Type} {m₀ : Str → Option Value}
  {Led : σ → List (Addr × Obj)} {ps : σ → List (Str × Value)} {stored : List Str} {X : σ → Prop}
/-- ways that meet, the tokens having grown -/
theorem lp_joinT {t : Sem Flow} (Led : σ → List (Addr × Obj)) (ps : σ → List (Str × Value)) (stored : List Str) (X : σ → Prop) (F : Fr h₀ L s.heap m₀)
    (h : wpAny (model prog w) A t (LpQ h₀ L s Led ps stored m₀ X Q) E s)
    (done : ∀ (c : σ) (u : Str → Option Value) h tk, s.toks ≤ tk → X c → Fr h₀ L h (kstB (fun z => if stored.contains z then u z else m₀ z) (ps c)) → News h₀ L h (Led c) → Q .next { s with heap := h, toks := tk }) :
    wpAny (model prog w) A t Q E s := by
  refine wpAny_mono (wpAny_toks h) (fun f s₂ q => ?_) fun _ _ e => e.1
  obtain ⟨q, hle⟩ := q
  cases f with
  | next =>
    obtain ⟨c, h', tk, m', rfl, F', N', hk, hr, x⟩ := q
    rw [List.append_nil] at N'
    exact done c m' h' tk hle x (ksw_fr hk hr F') N'
  | brk => exact q
  | cont => exact q
  | ret v => exact q
/-- ways that meet, the ledger being left as it was -/
theorem lp_joinK {t : Sem Flow} {news : List (Addr × Obj)} (_N : News h₀ L s.heap news) (ps : σ → List (Str × Value)) (stored : List Str) (X : σ → Prop) (F : Fr h₀ L s.heap m₀)
    (h : wpAny (model prog w) A t (LpQ h₀ L s (fun _ => news) ps stored m₀ X Q) E s)
    (done : ∀ (c : σ) (u : Str → Option Value) h tk, X c → Fr h₀ L h (kstB (fun z => if stored.contains z then u z else m₀ z) (ps c)) → News h₀ L h news → Q .next { s with heap := h, toks := tk }) :
    wpAny (model prog w) A t Q E s := lp_join (fun _ => news) ps stored X F h done
theorem lpExK {news news' : List (Addr × Obj)} {s₁ : Shared} (c : σ) {m' : Str → Option Value} {h : Heap} {tk : Nat} (F : Fr h₀ L h m') (N : News h₀ L h news') (hs : ∀ p ∈ news, p ∈ news') (hk : ∀ p ∈ ps c, m' p.1 = some p.2)
    (hr : ∀ z, (∀ p ∈ ps c, z ≠ p.1) → stored.contains z = false → m' z = m₀ z) (x : X c) :
    LpEx h₀ L s₁ (fun _ => news) [] ps stored m₀ X { s₁ with heap := h, toks := tk } := ⟨c, h, tk, m', rfl, F, fun p hp => N p (hs p (by rw [List.append_nil] at hp; exact hp)), hk, hr, x⟩
end

/-- the ledger in front of the law's loop: two lists, the cell of sums, and the rest laid behind a name -/
theorem cut5 {h₀ h : Heap} {L q p z5 z4 z3 z2 z1 : Addr} {oq op o5 o4 o3 o2 o1 : Obj} {E : List (Addr × Obj)} {v5 : Option Value}
    (N : News h₀ L h ((q, oq) :: (p, op) :: (E ++ [(z5, o5), (z4, o4), (z3, o3), (z2, o2), (z1, o1)])))
    (hE : ∀ x ∈ E, ∃ its n, x.2 = listOf its n) (h5 : o5.data = Data.cell v5) (hz : z4 ≠ z5 ∧ z3 ≠ z5 ∧ z2 ≠ z5 ∧ z1 ≠ z5)
    (hq : ∀ x ∈ (p, op) :: (E ++ [(z5, o5), (z4, o4), (z3, o3), (z2, o2), (z1, o1)]), x.1 ≠ q) (hp : ∀ x ∈ (E ++ [(z5, o5), (z4, o4), (z3, o3), (z2, o2), (z1, o1)]), x.1 ≠ p) :
    ∃ R, News h₀ L h ((q, oq) :: (p, op) :: (z5, o5) :: R) ∧ (∀ x ∈ R, x.1 ≠ q) ∧ (∀ x ∈ R, x.1 ≠ p) ∧ (∀ x ∈ R, x.1 ≠ z5) ∧ (∀ x ∈ E, x ∈ R) ∧ (z4, o4) ∈ R ∧ (z3, o3) ∈ R ∧ (z2, o2) ∈ R ∧ (z1, o1) ∈ R ∧ p ≠ q ∧ z5 ≠ q ∧ z5 ≠ p := by
  have hsub : ∀ x ∈ E ++ [(z4, o4), (z3, o3), (z2, o2), (z1, o1)], x ∈ E ++ [(z5, o5), (z4, o4), (z3, o3), (z2, o2), (z1, o1)] := fun x hx =>
    (List.mem_append.mp hx).elim (fun m => List.mem_append_left _ m) fun m => List.mem_append_right _ (.tail _ m)
  have h5m : (z5, o5) ∈ E ++ [(z5, o5), (z4, o4), (z3, o3), (z2, o2), (z1, o1)] := List.mem_append_right _ (.head _)
  refine ⟨E ++ [(z4, o4), (z3, o3), (z2, o2), (z1, o1)], ?_, fun x hx => hq x (.tail _ (hsub x hx)), fun x hx => hp x (hsub x hx), ?_, fun x hx => List.mem_append_left _ hx, List.mem_append_right _ (.head _), List.mem_append_right _ (.tail _ (.head _)),
    List.mem_append_right _ (.tail _ (.tail _ (.head _))), List.mem_append_right _ (.tail _ (.tail _ (.tail _ (.head _)))), hq _ (.head _), hq _ (.tail _ h5m), hp _ h5m⟩
  · intro x hx
    rcases List.mem_cons.mp hx with rfl | hx
    · exact N _ (.head _)
    rcases List.mem_cons.mp hx with rfl | hx
    · exact N _ (.tail _ (.head _))
    rcases List.mem_cons.mp hx with rfl | hx
    · exact N _ (.tail _ (.tail _ h5m))
    · exact N _ (.tail _ (.tail _ (hsub x hx)))
  · intro x hx e
    rcases List.mem_append.mp hx with m | m
    · obtain ⟨its, n, ho⟩ := hE x m
      have a := (N x (.tail _ (.tail _ (List.mem_append_left _ m)))).1
      have b := (N _ (.tail _ (.tail _ h5m))).1
      rw [e] at a
      have c : x.2 = o5 := Option.some.inj (a.symm.trans b)
      rw [← c, ho] at h5
      cases h5
    · simp only [List.mem_cons, List.not_mem_nil, or_false] at m
      rcases m with rfl | rfl | rfl | rfl
      · exact hz.1 e
      · exact hz.2.1 e
      · exact hz.2.2.1 e
      · exact hz.2.2.2 e
end Mine
end

section
open PySem PySem.W PySem.Calls PyProof.Rows
set_option Elab.async false
namespace Mine
local macro_rules | `(tactic| omega) => `(tactic| first | decide | lia)
set_option maxRecDepth 100000
set_option maxHeartbeats 4000000
noncomputable def ordS (i1 i2 i3 : Nat) : List Int := [([0, 1, 2, 3] : List Int).getD i1 0, (([0, 1, 2, 3] : List Int).eraseIdx i1).getD i2 0, ((([0, 1, 2, 3] : List Int).eraseIdx i1).eraseIdx i2).getD i3 0, (((([0, 1, 2, 3] : List Int).eraseIdx i1).eraseIdx i2).eraseIdx i3).getLastD 0]
theorem ordS_lt' : ∀ (i1 : Fin 4) (i2 : Fin 3) (i3 : Fin 2) (i : Fin 4), 0 ≤ (ordS i1 i2 i3).getD i 0 ∧ (ordS i1 i2 i3).getD i 0 < 4 := by decide +kernel
theorem ordS_lt {i1 i2 i3 : Nat} (h1 : i1 < 4) (h2 : i2 < 3) (h3 : i3 < 2) (i : Nat) (h : i < 4) : 0 ≤ (ordS i1 i2 i3).getD i 0 ∧ (ordS i1 i2 i3).getD i 0 < 4 := ordS_lt' ⟨i1, h1⟩ ⟨i2, h2⟩ ⟨i3, h3⟩ ⟨i, h⟩
/-- the four turns of a row as one number -/
noncomputable def turnT (i1 i2 i3 r : Nat) : Nat := ((turnN r (ordS i1 i2 i3) 4).getD 0 0 + 2 * (turnN r (ordS i1 i2 i3) 4).getD 1 0 + 4 * (turnN r (ordS i1 i2 i3) 4).getD 2 0 + 8 * (turnN r (ordS i1 i2 i3) 4).getD 3 0).toNat
theorem turn_bits' : ∀ (i1 : Fin 4) (i2 : Fin 3) (i3 : Fin 2) (r : Fin 16), turnT i1 i2 i3 r < 16 ∧ turnN ((r : Nat) : Int) (ordS i1 i2 i3) 4 = [((turnT i1 i2 i3 r % 2 : Nat) : Int), ((turnT i1 i2 i3 r / 2 % 2 : Nat) : Int), ((turnT i1 i2 i3 r / 4 % 2 : Nat) : Int), ((turnT i1 i2 i3 r / 8 % 2 : Nat) : Int)] := by decide +kernel
theorem turn_bits {i1 i2 i3 r : Nat} (h1 : i1 < 4) (h2 : i2 < 3) (h3 : i3 < 2) (h : r < 16) : turnT i1 i2 i3 r < 16 ∧ turnN ((r : Nat) : Int) (ordS i1 i2 i3) 4 = [((turnT i1 i2 i3 r % 2 : Nat) : Int), ((turnT i1 i2 i3 r / 2 % 2 : Nat) : Int), ((turnT i1 i2 i3 r / 4 % 2 : Nat) : Int), ((turnT i1 i2 i3 r / 8 % 2 : Nat) : Int)] :=
  turn_bits' ⟨i1, h1⟩ ⟨i2, h2⟩ ⟨i3, h3⟩ ⟨r, h⟩
theorem letters_eq' : ∀ one two : Fin 10, Txt.slice (Str.ofString "aAbBcCdDeEfFhHkKnNrR") (some (2 * ((one : Nat) : Int))) (some (2 * ((one : Nat) : Int) + 2)) ++ Txt.slice (Str.ofString "aAbBcCdDeEfFhHkKnNrR") (some (2 * ((two : Nat) : Int))) (some (2 * ((two : Nat) : Int) + 2)) = tx [chrS one two 0 0, chrS one two 0 1, chrS one two 0 2, chrS one two 0 3] := by decide +kernel
theorem letters_eq {one two sg : Nat} (h1 : one < 10) (h2 : two < 10) : Txt.slice (Str.ofString "aAbBcCdDeEfFhHkKnNrR") (some (2 * (one : Int))) (some (2 * (one : Int) + 2)) ++ Txt.slice (Str.ofString "aAbBcCdDeEfFhHkKnNrR") (some (2 * (two : Int))) (some (2 * (two : Int) + 2)) = tx [chrS one two sg 0, chrS one two sg 1, chrS one two sg 2, chrS one two sg 3] := letters_eq' ⟨one, h1⟩ ⟨two, h2⟩
theorem sign_eq' : ∀ sg : Fin 20, Txt.item (Str.ofString "!%()*+,-./:=\x40[]^{|}~") ((sg : Nat) : Int) = tx [chrS 0 0 sg 4] := by decide +kernel
theorem sign_eq {one two sg : Nat} (h : sg < 20) : Txt.item (Str.ofString "!%()*+,-./:=\x40[]^{|}~") (sg : Int) = tx [chrS one two sg 4] := sign_eq' ⟨sg, h⟩
noncomputable def priceR (way i1 i2 i3 r : Nat) : Int := ((priceG (way - 2) (turnT i1 i2 i3 r) : Nat) : Int)
noncomputable def pageR (way i1 i2 i3 one two sg : Nat) (ahd : Bool) (r : Nat) : Str := tx ((pageG (way - 2) ahd (turnT i1 i2 i3 r)).map (chrS one two sg))
theorem item4 {one two sg T : Nat} (h : T < 16) : Txt.item (tx [chrS one two sg 0, chrS one two sg 1, chrS one two sg 2, chrS one two sg 3]) (((T / 2 % 2 : Nat) : Int) + 2 * ((T / 4 % 2 : Nat) : Int)) = tx [chrS one two sg (lettG T)] := by
  have e : (((T / 2 % 2 : Nat) : Int) + 2 * ((T / 4 % 2 : Nat) : Int)) = ((T / 2 % 4 : Nat) : Int) := by omega
  rw [e, item_at (Int.natCast_nonneg _) (by rw [tx_len]; show ((T / 2 % 4 : Nat) : Int) < 4; omega)]
  rw [Int.toNat_natCast]
  have q : ∀ k : Nat, k < 4 → ∀ f : S12 → Nat, ([f 0, f 1, f 2, f 3] : List Nat).getD k 0 = f ⟨k % 12, Nat.mod_lt _ (by decide)⟩ := by
    intro k hk f
    match k, hk with
    | 0, _ => rfl
    | 1, _ => rfl
    | 2, _ => rfl
    | 3, _ => rfl
    | n + 4, h => omega
  have q2 := q (T / 2 % 4) (by omega) (chrS one two sg)
  have e2 : (⟨T / 2 % 4 % 12, Nat.mod_lt _ (by decide)⟩ : S12) = lettG T := by unfold lettG; exact Fin.ext (by show T / 2 % 4 % 12 = T / 2 % 4; omega)
  rw [e2] at q2
  rw [← q2]
noncomputable def lastC (g : Bool) : Nat := if g then 62 else 60
theorem item2 {b : Nat} (h : b < 2) : Txt.item (Str.ofString "<>") (b : Int) = tx [lastC (b == 1)] := by
  match b, h with
  | 0, _ => decide +kernel
  | 1, _ => decide +kernel
  | n + 2, h => omega
end Mine
end

section
open PySem PySem.W PySem.Calls PyProof.Rows
set_option Elab.async false
namespace Mine
local macro_rules | `(tactic| omega) => `(tactic| first | decide | lia)
set_option maxRecDepth 100000
set_option maxHeartbeats 8000000
noncomputable def priceL (k i1 i2 i3 : Nat) : List Int := (List.range 16).map fun r => ((priceG k (turnT i1 i2 i3 r) : Nat) : Int)
noncomputable def rowsL (qs : List Int) (w : Int) : List Nat := let ss := sumsS qs w 4; (List.range 16).filter fun r => ss.getD r 0 == 0
theorem code_ok' : ∀ (k : Fin 3) (wi : Fin 4) (i1 : Fin 4) (i2 : Fin 3) (i3 : Fin 2), takP (priceL k i1 i2 i3) ((wishG k wi : Nat) : Int) 16 = rowsL (priceL k i1 i2 i3) ((wishG k wi : Nat) : Int) := by decide +kernel
noncomputable def numG (sg : Nat) : Int := ([54, 24, 7, 8, 16, 14, 12, 15, 23, 17, 11, 22, 49, 9, 10, 32, 25, 18, 26, 31] : List Int).getD sg 0
noncomputable def symsG (sg : Nat) (ahd : Bool) (T : Nat) : List Int :=
  let l : Int := ([255, 256, 1, 257] : List Int).getD (T / 2 % 4) 0
  (if T % 2 = 1 then (if ahd then [numG sg, l] else [l, numG sg]) else [l]) ++ [if T / 8 % 2 = 1 then 21 else 20]
theorem turned_ok : ∀ (sg : Fin 20) (ahd : Bool) (T : Fin 16), turnedS (numG sg) (symsG sg ahd T) = [((T % 2 : Nat) : Int), ((T / 2 % 2 : Nat) : Int), ((T / 4 % 2 : Nat) : Int), ((T / 8 % 2 : Nat) : Int)] := by decide +kernel
theorem sum_ok : ∀ (i1 : Fin 4) (i2 : Fin 3) (i3 : Fin 2) (r : Fin 16), (([0, 1, 2, 3] : List Nat).map fun k => ([((turnT i1 i2 i3 r % 2 : Nat) : Int), ((turnT i1 i2 i3 r / 2 % 2 : Nat) : Int), ((turnT i1 i2 i3 r / 4 % 2 : Nat) : Int), ((turnT i1 i2 i3 r / 8 % 2 : Nat) : Int)] : List Int).getD ((ordS i1 i2 i3).getD k 0).toNat 0 * 2 ^ k).sum = ((r : Nat) : Int) := by decide +kernel
end Mine
end

section
open PySem PySem.W PySem.Calls PyProof.Rows
set_option Elab.async false
namespace Mine
local macro_rules | `(tactic| omega) => `(tactic| first | decide | lia)
set_option maxRecDepth 100000
noncomputable def handA (way : Nat) : Addr := [94, 101, 115, 122, 108].getD way 0
noncomputable def endS : Nat → Bool → Str
  | 3, false => Str.ofString "&lt;"
  | 3, true => Str.ofString ">"
  | 4, false => Str.ofString "<"
  | 4, true => Str.ofString "&gt;"
  | _, false => Str.ofString "&lt;"
  | _, true => Str.ofString "&gt;"
theorem c_hand (w : World) (mean : ExcName → Option Value) (mg mb : Str → Option Value) (news : List (Addr × Obj)) (way : Nat) (xa : Str) (ta : Tok) (h : List Nat) (g : Bool)
   (hw : way < 5) (hx : lsT xa = h ++ [lastC g]) (hh : ∀ c ∈ h, c ∉ spec7) (hl : h.length ≤ 4) :
   Cl w mean mg mb (handA way) news 2 [.str xa ta] (fun h₀ L m s Q => @LE.le Nat _ 1 s.toks ∧ RetS news (tx (h ++ lsT (endS way g))) h₀ L m s Q) := by
  match way, hw, g, hx with
  | 0, _, false, hx => exact c_esc94l w mean mg mb news xa ta h hx hh hl
  | 0, _, true, hx => exact c_esc94g w mean mg mb news xa ta h hx hh hl
  | 1, _, false, hx => exact c_esc101l w mean mg mb news xa ta h hx hh hl
  | 1, _, true, hx => exact c_esc101g w mean mg mb news xa ta h hx hh hl
  | 2, _, false, hx => exact c_esc115l w mean mg mb news xa ta h hx hh hl
  | 2, _, true, hx => exact c_esc115g w mean mg mb news xa ta h hx hh hl
  | 3, _, false, hx => exact c_esc122l w mean mg mb news xa ta h hx hh hl
  | 3, _, true, hx => exact c_esc122g w mean mg mb news xa ta h hx hh hl
  | 4, _, false, hx => exact c_esc108l w mean mg mb news xa ta h hx hh hl
  | 4, _, true, hx => exact c_esc108g w mean mg mb news xa ta h hx hh hl
  | n + 5, hw, _, _ => omega
section
variable {prog : Program} {w : World} {A : Around} {E : Value → Shared → Prop} {s : Shared}
theorem tx_app (a b : List Nat) : tx a ++ tx b = tx (a ++ b) := by
  rw [← tx_ls (tx a ++ tx b)]
  congr 1
  simp [lsT, Str.cps_append]
theorem add_tx {a b : List Nat} {x y : Str} {t u : Tok} {Q : Value → Shared → Prop} (hx : x = tx a) (hy : y = tx b) (hl : a.length + b.length ≤ 1000)
    (h : ∀ t' k, s.toks ≤ k → Q (.str (tx (a ++ b)) t') { s with toks := k }) : wpAny (model prog w) A (binaryOp .Add (.str x t) (.str y u)) Q E s := by
  subst hx hy
  refine wpAny_of_toks (KOpn.add ?_ fun t' k _ hle => ?_)
  · rw [tx_len, tx_len]; omega
  · rw [tx_app]
    exact h t' k hle
theorem item_tx {x y : Str} {i : Int} {n : Nat} {t u : Tok} {value slice : PySem.Expr} {Q : Value → Shared → Prop} (e : Txt.item x i = y) (hk : x.length = n) (h0 : -(n : Int) ≤ i) (h1 : i < (n : Int)) (hn : n ≤ 16777216) (h : Q (.str y s.toks) { s with toks := s.toks + 1 })
    (hs : subscripted slice false (.str x t) (.int i u) = operate [.str x t, .int i u] (getItem (.str x t) (.int i u)) := by with_unfolding_all rfl)
    (ht : ∀ r, letTemporaryGo value (.str x t) r = pure () := by intro _; with_unfolding_all rfl) :
    wpAny (model prog w) A (subscriptTail value slice (.str x t) (.int i u)) Q E s := KXi.item hk h0 h1 hn (fun _ => e ▸ h) hs ht
end
end Mine
end

section
open PySem PySem.W PySem.Calls PyProof.Rows
set_option Elab.async false
namespace Mine
local macro_rules | `(tactic| omega) => `(tactic| first | decide | lia)
set_option maxRecDepth 100000
set_option maxHeartbeats 8000000
theorem range_getD {α : Type} {f : Nat → α} {n i : Nat} {d : α} (h : i < n) : ((List.range n).map f).getD i d = f i := by
  rw [List.getD_eq_getElem?_getD, List.getElem?_map, List.getElem?_range h]; rfl
abbrev pkB (a x : Nat) : Nat := if x = 1 then a else 0
theorem pkB_xor {a x y : Nat} (hx : x < 2) (hy : y < 2) : pkB a (x ^^^ y) = pkB a x ^^^ pkB a y := by
  match x, y, hx, hy with
  | 0, 0, _, _ => exact (Nat.xor_zero 0).symm
  | 0, 1, _, _ => exact (Nat.zero_xor a).symm
  | 1, 0, _, _ => exact (Nat.xor_zero a).symm
  | 1, 1, _, _ => exact (Nat.xor_self a).symm
abbrev linB (a b c d r : Nat) : Nat := (pkB a (r % 2) ^^^ pkB b (r / 2 % 2)) ^^^ (pkB c (r / 4 % 2) ^^^ pkB d (r / 8 % 2))
theorem bits_xor : ∀ r o : Fin 16, ((r : Nat) ^^^ (o : Nat)) % 2 = (r % 2) ^^^ (o % 2) ∧ ((r : Nat) ^^^ (o : Nat)) / 2 % 2 = (r / 2 % 2) ^^^ (o / 2 % 2) ∧ ((r : Nat) ^^^ (o : Nat)) / 4 % 2 = (r / 4 % 2) ^^^ (o / 4 % 2) ∧ ((r : Nat) ^^^ (o : Nat)) / 8 % 2 = (r / 8 % 2) ^^^ (o / 8 % 2) ∧ (r : Nat) ^^^ (o : Nat) < 16 := by decide +kernel
theorem xor4 (a b c d : Nat) : (a ^^^ b) ^^^ (c ^^^ d) = (a ^^^ c) ^^^ (b ^^^ d) := by
  rw [Nat.xor_assoc, Nat.xor_assoc, ← Nat.xor_assoc b c d, Nat.xor_comm b c, Nat.xor_assoc c b d]
theorem linB_xor (a b c d : Nat) (r o : Fin 16) : linB a b c d ((r : Nat) ^^^ (o : Nat)) = linB a b c d r ^^^ linB a b c d o := by
  obtain ⟨h1, h2, h3, h4, _⟩ := bits_xor r o
  have m : ∀ x : Nat, x % 2 < 2 := fun x => Nat.mod_lt _ (by decide)
  unfold linB
  rw [h1, h2, h3, h4, pkB_xor (m _) (m _), pkB_xor (m _) (m _), pkB_xor (m _) (m _), pkB_xor (m _) (m _), xor4 (pkB a _), xor4 (pkB c _), xor4]
theorem turn_lin : ∀ (i1 : Fin 4) (i2 : Fin 3) (i3 : Fin 2) (r : Fin 16), turnT i1 i2 i3 r = linB (turnT i1 i2 i3 1) (turnT i1 i2 i3 2) (turnT i1 i2 i3 4) (turnT i1 i2 i3 8) r := by decide +kernel
theorem turn_xor' (i1 : Fin 4) (i2 : Fin 3) (i3 : Fin 2) (r o : Fin 16) : turnT i1 i2 i3 ((r : Nat) ^^^ (o : Nat)) = turnT i1 i2 i3 r ^^^ turnT i1 i2 i3 o := by
  have e := turn_lin i1 i2 i3 ⟨(r : Nat) ^^^ (o : Nat), (bits_xor r o).2.2.2.2⟩
  rw [turn_lin i1 i2 i3 r, turn_lin i1 i2 i3 o, ← linB_xor]
  exact e
theorem turn_inj {i1 i2 i3 r o : Nat} (h1 : i1 < 4) (h2 : i2 < 3) (h3 : i3 < 2) (hr : r < 16) (ho : o < 16) (h : turnT i1 i2 i3 r = turnT i1 i2 i3 o) : r = o := by
  have a := sum_ok ⟨i1, h1⟩ ⟨i2, h2⟩ ⟨i3, h3⟩ ⟨r, hr⟩
  have b := sum_ok ⟨i1, h1⟩ ⟨i2, h2⟩ ⟨i3, h3⟩ ⟨o, ho⟩
  dsimp only at a b
  rw [h] at a
  exact Int.ofNat.inj (a.symm.trans b)
theorem ok_all {kind : Nat} {ahd : Bool} (hk : kind < 3) (ha : 0 < kind → ahd = true) (T U : Fin 16) (h : T ≠ U) : okG kind ahd T U = true ∧ pageG kind ahd T ≠ pageG kind ahd U := by
  match kind, hk, ahd, ha with
  | 0, _, true, _ => exact ⟨ok0t T U h, pageNe0t T U h⟩
  | 0, _, false, _ => exact ⟨ok0f T U h, pageNe0f T U h⟩
  | 1, _, ahd, ha => rw [ha (by decide)]; exact ⟨ok1t T U h, pageNe1t T U h⟩
  | 2, _, ahd, ha => rw [ha (by decide)]; exact ⟨ok2t T U h, pageNe2t T U h⟩
  | n + 3, hk, _, _ => omega
theorem wishG_ge (k wi : Nat) : 3 ≤ wishG k wi := by unfold wishG; split <;> omega
theorem wishG_le (k wi : Nat) (h : wi < 4) : wishG k wi ≤ 10 := by unfold wishG; split <;> omega
theorem far {way wi bi i1 i2 i3 one two sg : Nat} {ahd : Bool} (hway : way < 5) (hwi : wi < 4) (hbi : bi < 4) (h1 : i1 < 4) (h2 : i2 < 3) (h3 : i3 < 2) (hone : one < 10) (htwo : two < 10) (hsg : sg < 20) (hne : one ≠ two)
    (ha : 2 < way → ahd = true) {o r : Nat} (ho : o < r) (hr : r < 16) :
    mi (levL (lsT (pageR way i1 i2 i3 one two sg ahd o)) (lsT (pageR way i1 i2 i3 one two sg ahd r)) (((wishG (way - 2) wi : Nat) : Int) - 1 + (bi : Int))) ((wishG (way - 2) wi : Nat) : Int) = mi (priceR way i1 i2 i3 (r ^^^ o)) ((wishG (way - 2) wi : Nat) : Int) := by
  have bT := (turn_bits h1 h2 h3 (Nat.lt_trans ho hr)).1
  have bU := (turn_bits h1 h2 h3 hr).1
  have hn : (⟨_, bT⟩ : Fin 16) ≠ ⟨_, bU⟩ := fun e => Nat.ne_of_lt ho (turn_inj h1 h2 h3 (Nat.lt_trans ho hr) hr (congrArg Fin.val e))
  have q := ok_all (kind := way - 2) (ahd := ahd) (by omega) (fun h => ha (by omega)) _ _ hn
  have hx := turn_xor' ⟨i1, h1⟩ ⟨i2, h2⟩ ⟨i3, h3⟩ ⟨r, hr⟩ ⟨o, Nat.lt_trans ho hr⟩
  dsimp only at q hx
  unfold priceR pageR
  rw [hx, Nat.xor_comm]
  have hw := wishG_ge (way - 2) wi
  rw [show ((wishG (way - 2) wi : Nat) : Int) - 1 + (bi : Int) = ((wishG (way - 2) wi - 1 + bi : Nat) : Int) by omega]
  show mi (levL ((pageG (way - 2) ahd (turnT i1 i2 i3 o)).map (chrS one two sg)) ((pageG (way - 2) ahd (turnT i1 i2 i3 r)).map (chrS one two sg)) _) _ = _
  rw [levG_map (sub := sub12) (chrS_inj hone htwo hsg hne) (chrS_sub hone htwo hsg hne) _ _ _ q.2, mi_nat, mi_nat]
  have z := q.1
  unfold okG at z
  rw [List.all_eq_true] at z
  have z1 := z wi (List.mem_range.mpr hwi)
  rw [List.all_eq_true] at z1
  have z2 := z1 bi (List.mem_range.mpr hbi)
  rw [Nat.eq_of_beq_eq_true z2]
/-- the signs that the law's table reads off a page -/
noncomputable def usR (one two sg : Nat) (ahd : Bool) (T : Nat) : List Nat := (headG ahd T).map (chrS one two sg) ++ [lastC (decide (T / 8 % 2 = 1))]
noncomputable def lsR (one two sg : Nat) : List Nat := [chrS one two sg 0, chrS one two sg 1, chrS one two sg 2, chrS one two sg 3]
section
open PySem.Builtin PySem.Builtin.Str
theorem occ_congr {x x' y : Str} (h : ∀ i, subAt x y i = subAt x' y i) (lo hi lim : Nat) : occurrences x y lo hi lim = occurrences x' y lo hi lim := by
  unfold occurrences
  simp only [h]
theorem subAt_0 {a : Nat} {r y' : List Nat} {y : Str} (hy : lsT y = 38 :: y') (ha : a ≠ 38) : subAt (tx (a :: r)) y 0 = false := by
  rw [StrLaws.subAt_eq]
  have e : y.length = y'.length + 1 := by rw [← ls_len, hy]; kernel_rfl
  rw [show y.cps.toList = 38 :: y' from hy, e]
  simp [ha]
theorem subAt_s {a : Nat} {r : List Nat} {y : Str} (i : Nat) : subAt (tx (a :: r)) y (i + 1) = subAt (tx r) y i := by
  rw [StrLaws.subAt_eq, StrLaws.subAt_eq]
  rfl
theorem sub_c1 {a : Nat} {r y' : List Nat} {y : Str} (hy : lsT y = 38 :: y') (ha : a ≠ 38) (i : Nat) : subAt (tx (a :: r)) y i = subAt (tx (0 :: r)) y i := by
  match i with
  | 0 => rw [subAt_0 hy ha, subAt_0 hy (by decide)]
  | i + 1 => rw [subAt_s, subAt_s]
theorem sub_c2 {a b : Nat} {r y' : List Nat} {y : Str} (hy : lsT y = 38 :: y') (ha : a ≠ 38) (hb : b ≠ 38) (i : Nat) : subAt (tx (a :: b :: r)) y i = subAt (tx (0 :: 0 :: r)) y i := by
  match i with
  | 0 => rw [subAt_0 hy ha, subAt_0 hy (by decide)]
  | 1 => rw [subAt_s, subAt_s, subAt_0 hy hb, subAt_0 hy (by decide)]
  | i + 2 => rw [subAt_s, subAt_s, subAt_s, subAt_s]
theorem repl_c {x x' y z : Str} (h : ∀ i, subAt x y i = subAt x' y i) (n : Nat) (hn : x.length = n) : Txt.replace x y z =
  if ((occurrences x' y 0 n (n + 1)).isEmpty || (y.length == 0 && z.length == 0)) = true then x else glued z (partsBetween x (occurrences x' y 0 n (n + 1)) y.length) := by
  unfold Txt.replace
  rw [hn, occ_congr h]
noncomputable def ends4 : List (List Nat × Nat) := [([38, 108, 116, 59], 60), ([38, 103, 116, 59], 62), ([60], 60), ([62], 62)]
noncomputable def OkR (h e : List Nat) (l : Nat) : Prop :=
  (Txt.replace (tx (h ++ e)) (Str.ofString "&lt;") (Str.ofString "<")).length ≤ 40 ∧ (Txt.replace (Txt.replace (tx (h ++ e)) (Str.ofString "&lt;") (Str.ofString "<")) (Str.ofString "&gt;") (Str.ofString ">")).cps = (h ++ [l]).toArray
theorem ls_lt : lsT (Str.ofString "&lt;") = 38 :: [108, 116, 59] := rfl
theorem ls_gt : lsT (Str.ofString "&gt;") = 38 :: [103, 116, 59] := rfl
theorem okR1 {a : Nat} (ha : a ≠ 38) : ∀ e ∈ ends4, OkR [a] e.1 e.2 := by
  intro e he
  simp only [ends4, List.mem_cons, List.not_mem_nil, or_false] at he
  rcases he with rfl | rfl | rfl | rfl
  · have q : Txt.replace (tx [a, 38, 108, 116, 59]) (Str.ofString "&lt;") (Str.ofString "<") = tx [a, 60] := by rw [repl_c (sub_c1 ls_lt ha) 5 rfl]; kernel_rfl
    have q2 : Txt.replace (tx [a, 60]) (Str.ofString "&gt;") (Str.ofString ">") = tx [a, 60] := by rw [repl_c (sub_c1 ls_gt ha) 2 rfl]; kernel_rfl
    exact ⟨by show (Txt.replace (tx [a, 38, 108, 116, 59]) _ _).length ≤ 40; rw [q]; show 2 ≤ 40; decide, by show (Txt.replace (Txt.replace (tx [a, 38, 108, 116, 59]) _ _) _ _).cps = _; rw [q, q2]; rfl⟩
  · have q : Txt.replace (tx [a, 38, 103, 116, 59]) (Str.ofString "&lt;") (Str.ofString "<") = tx [a, 38, 103, 116, 59] := by rw [repl_c (sub_c1 ls_lt ha) 5 rfl]; kernel_rfl
    have q2 : Txt.replace (tx [a, 38, 103, 116, 59]) (Str.ofString "&gt;") (Str.ofString ">") = tx [a, 62] := by rw [repl_c (sub_c1 ls_gt ha) 5 rfl]; kernel_rfl
    exact ⟨by show (Txt.replace (tx [a, 38, 103, 116, 59]) _ _).length ≤ 40; rw [q]; show 5 ≤ 40; decide, by show (Txt.replace (Txt.replace (tx [a, 38, 103, 116, 59]) _ _) _ _).cps = _; rw [q, q2]; rfl⟩
  · have q : Txt.replace (tx [a, 60]) (Str.ofString "&lt;") (Str.ofString "<") = tx [a, 60] := by rw [repl_c (sub_c1 ls_lt ha) 2 rfl]; kernel_rfl
    have q2 : Txt.replace (tx [a, 60]) (Str.ofString "&gt;") (Str.ofString ">") = tx [a, 60] := by rw [repl_c (sub_c1 ls_gt ha) 2 rfl]; kernel_rfl
    exact ⟨by show (Txt.replace (tx [a, 60]) _ _).length ≤ 40; rw [q]; show 2 ≤ 40; decide, by show (Txt.replace (Txt.replace (tx [a, 60]) _ _) _ _).cps = _; rw [q, q2]; rfl⟩
  · have q : Txt.replace (tx [a, 62]) (Str.ofString "&lt;") (Str.ofString "<") = tx [a, 62] := by rw [repl_c (sub_c1 ls_lt ha) 2 rfl]; kernel_rfl
    have q2 : Txt.replace (tx [a, 62]) (Str.ofString "&gt;") (Str.ofString ">") = tx [a, 62] := by rw [repl_c (sub_c1 ls_gt ha) 2 rfl]; kernel_rfl
    exact ⟨by show (Txt.replace (tx [a, 62]) _ _).length ≤ 40; rw [q]; show 2 ≤ 40; decide, by show (Txt.replace (Txt.replace (tx [a, 62]) _ _) _ _).cps = _; rw [q, q2]; rfl⟩
theorem okR2 {a b : Nat} (ha : a ≠ 38) (hb : b ≠ 38) : ∀ e ∈ ends4, OkR [a, b] e.1 e.2 := by
  intro e he
  simp only [ends4, List.mem_cons, List.not_mem_nil, or_false] at he
  rcases he with rfl | rfl | rfl | rfl
  · have q : Txt.replace (tx [a, b, 38, 108, 116, 59]) (Str.ofString "&lt;") (Str.ofString "<") = tx [a, b, 60] := by rw [repl_c (sub_c2 ls_lt ha hb) 6 rfl]; kernel_rfl
    have q2 : Txt.replace (tx [a, b, 60]) (Str.ofString "&gt;") (Str.ofString ">") = tx [a, b, 60] := by rw [repl_c (sub_c2 ls_gt ha hb) 3 rfl]; kernel_rfl
    exact ⟨by show (Txt.replace (tx [a, b, 38, 108, 116, 59]) _ _).length ≤ 40; rw [q]; show 3 ≤ 40; decide, by show (Txt.replace (Txt.replace (tx [a, b, 38, 108, 116, 59]) _ _) _ _).cps = _; rw [q, q2]; rfl⟩
  · have q : Txt.replace (tx [a, b, 38, 103, 116, 59]) (Str.ofString "&lt;") (Str.ofString "<") = tx [a, b, 38, 103, 116, 59] := by rw [repl_c (sub_c2 ls_lt ha hb) 6 rfl]; kernel_rfl
    have q2 : Txt.replace (tx [a, b, 38, 103, 116, 59]) (Str.ofString "&gt;") (Str.ofString ">") = tx [a, b, 62] := by rw [repl_c (sub_c2 ls_gt ha hb) 6 rfl]; kernel_rfl
    exact ⟨by show (Txt.replace (tx [a, b, 38, 103, 116, 59]) _ _).length ≤ 40; rw [q]; show 6 ≤ 40; decide, by show (Txt.replace (Txt.replace (tx [a, b, 38, 103, 116, 59]) _ _) _ _).cps = _; rw [q, q2]; rfl⟩
  · have q : Txt.replace (tx [a, b, 60]) (Str.ofString "&lt;") (Str.ofString "<") = tx [a, b, 60] := by rw [repl_c (sub_c2 ls_lt ha hb) 3 rfl]; kernel_rfl
    have q2 : Txt.replace (tx [a, b, 60]) (Str.ofString "&gt;") (Str.ofString ">") = tx [a, b, 60] := by rw [repl_c (sub_c2 ls_gt ha hb) 3 rfl]; kernel_rfl
    exact ⟨by show (Txt.replace (tx [a, b, 60]) _ _).length ≤ 40; rw [q]; show 3 ≤ 40; decide, by show (Txt.replace (Txt.replace (tx [a, b, 60]) _ _) _ _).cps = _; rw [q, q2]; rfl⟩
  · have q : Txt.replace (tx [a, b, 62]) (Str.ofString "&lt;") (Str.ofString "<") = tx [a, b, 62] := by rw [repl_c (sub_c2 ls_lt ha hb) 3 rfl]; kernel_rfl
    have q2 : Txt.replace (tx [a, b, 62]) (Str.ofString "&gt;") (Str.ofString ">") = tx [a, b, 62] := by rw [repl_c (sub_c2 ls_gt ha hb) 3 rfl]; kernel_rfl
    exact ⟨by show (Txt.replace (tx [a, b, 62]) _ _).length ≤ 40; rw [q]; show 3 ≤ 40; decide, by show (Txt.replace (Txt.replace (tx [a, b, 62]) _ _) _ _).cps = _; rw [q, q2]; rfl⟩
end
theorem not38b : ∀ i : Fin 40, tab47.getD i 0 ≠ 38 := by decide
theorem plc_40 {one two sg : Nat} (h1 : one < 10) (h2 : two < 10) (hs : sg < 20) {x : S12} (hx : x.val < 5) : plc one two sg x < 40 := by
  by_cases h4 : x.val < 4
  · exact Nat.lt_trans ((plc_20 h1 h2).mpr h4) (by decide)
  · rw [plc_hi h4, if_pos (Nat.le_antisymm (Nat.le_of_lt_succ hx) (Nat.le_of_not_lt h4))]
    exact Nat.add_lt_add_left hs 20
theorem chr_not38 {one two sg : Nat} (h1 : one < 10) (h2 : two < 10) (hs : sg < 20) {x : S12} (hx : x.val < 5) : chrS one two sg x ≠ 38 := by
  have h := plc_40 (sg := sg) h1 h2 hs hx
  exact not38b ⟨_, h⟩
theorem lett_lt (T : Nat) : (lettG T).val < 4 := by unfold lettG; show T / 2 % 4 < 4; omega
theorem ends_mem (kind : Nat) (hk : kind < 3) (g : Bool) (one two sg : Nat) : ((endG kind g).map (chrS one two sg), lastC g) ∈ ends4 := by
  match kind, hk, g with
  | 0, _, false => exact .head _
  | 0, _, true => exact .tail _ (.head _)
  | 1, _, false => exact .head _
  | 1, _, true => exact .tail _ (.tail _ (.tail _ (.head _)))
  | 2, _, false => exact .tail _ (.tail _ (.head _))
  | 2, _, true => exact .tail _ (.head _)
theorem page_replaced {way i1 i2 i3 one two sg r : Nat} {ahd : Bool} (hway : way < 5) (h1 : one < 10) (h2 : two < 10) (hs : sg < 20) :
    OkR ((headG ahd (turnT i1 i2 i3 r)).map (chrS one two sg)) ((endG (way - 2) (decide (turnT i1 i2 i3 r / 8 % 2 = 1))).map (chrS one two sg)) (lastC (decide (turnT i1 i2 i3 r / 8 % 2 = 1))) := by
  generalize turnT i1 i2 i3 r = T
  have hm := ends_mem (way - 2) (by omega) (decide (T / 8 % 2 = 1)) one two sg
  have hl := chr_not38 h1 h2 hs (x := lettG T) (Nat.lt_succ_of_lt (lett_lt T))
  have h4 := chr_not38 h1 h2 hs (x := 4) (by decide)
  unfold headG
  split
  · cases ahd
    · have z := okR2 hl h4 _ hm
      dsimp only at z
      simp only [Bool.false_eq_true, if_false, List.map_cons, List.map_nil]
      exact z
    · have z := okR2 h4 hl _ hm
      dsimp only at z
      simp only [if_true, List.map_cons, List.map_nil]
      exact z
  · have z := okR1 hl _ hm
    dsimp only at z
    simp only [List.map_cons, List.map_nil]
    exact z
theorem idx4 {f : S12 → Nat} (hf : ∀ x y, f x = f y ↔ x = y) : ∀ k : Fin 4, [f 0, f 1, f 2, f 3].idxOf (f ⟨k.val, by omega⟩) = k.val := by
  have ne : ∀ x y : S12, x ≠ y → (f x == f y) = false := fun x y h => beq_eq_false_iff_ne.mpr fun e => h ((hf x y).mp e)
  intro k
  match k with
  | 0 => show [f 0, f 1, f 2, f 3].idxOf (f 0) = 0; simp [List.idxOf_cons]
  | 1 => show [f 0, f 1, f 2, f 3].idxOf (f 1) = 1; simp [List.idxOf_cons, ne 0 1 (by decide)]
  | 2 => show [f 0, f 1, f 2, f 3].idxOf (f 2) = 2; simp [List.idxOf_cons, ne 0 2 (by decide), ne 1 2 (by decide)]
  | 3 => show [f 0, f 1, f 2, f 3].idxOf (f 3) = 3; simp [List.idxOf_cons, ne 0 3 (by decide), ne 1 3 (by decide), ne 2 3 (by decide)]
theorem mem4 {f : S12 → Nat} (hf : ∀ x y, f x = f y ↔ x = y) (x : S12) : f x ∈ [f 0, f 1, f 2, f 3] ↔ x.val < 4 := by
  simp only [List.mem_cons, List.not_mem_nil, or_false, hf]
  constructor
  · rintro (rfl | rfl | rfl | rfl) <;> decide
  · intro h
    have : x.val = 0 ∨ x.val = 1 ∨ x.val = 2 ∨ x.val = 3 := by omega
    rcases this with h | h | h | h
    · exact .inl (Fin.ext h)
    · exact .inr (.inl (Fin.ext h))
    · exact .inr (.inr (.inl (Fin.ext h)))
    · exact .inr (.inr (.inr (Fin.ext h)))
theorem lsR_nodup {one two sg : Nat} (h1 : one < 10) (h2 : two < 10) (hs : sg < 20) (hne : one ≠ two) : (lsR one two sg).Nodup := by
  have hf := chrS_inj h1 h2 hs hne
  unfold lsR
  simp [hf]
theorem sgn_op : ∀ sg : Fin 20, sgn (tab47.getD (20 + sg) 0) = numG sg ∧ tab47.getD (20 + sg) 0 ∈ sgTab.map (·.1) := by decide
theorem sym_of {one two sg : Nat} (h1 : one < 10) (h2 : two < 10) (hs : sg < 20) (hne : one ≠ two) :
    (∀ T, symS (lsR one two sg) (chrS one two sg (lettG T)) = ([255, 256, 1, 257] : List Int).getD (T / 2 % 4) 0) ∧ symS (lsR one two sg) (chrS one two sg 4) = numG sg ∧ symS (lsR one two sg) 60 = 20 ∧ symS (lsR one two sg) 62 = 21 := by
  have hf := chrS_inj h1 h2 hs hne
  have hm := mem4 hf
  refine ⟨fun T => ?_, ?_, ?_, ?_⟩
  · unfold symS lsR
    rw [if_pos ((hm _).mpr (lett_lt T))]
    have := idx4 hf ⟨T / 2 % 4, Nat.mod_lt _ (by decide)⟩
    dsimp only at this
    unfold lettG
    rw [this]
  · unfold symS lsR
    rw [if_neg (fun h => absurd ((hm 4).mp h) (by decide))]
    exact (sgn_op ⟨sg, hs⟩).1
  · have e : (60 : Nat) = chrS one two sg 5 := rfl
    unfold symS lsR
    rw [e, if_neg (fun h => absurd ((hm 5).mp h) (by decide))]
    rfl
  · have e : (62 : Nat) = chrS one two sg 6 := rfl
    unfold symS lsR
    rw [e, if_neg (fun h => absurd ((hm 6).mp h) (by decide))]
    rfl
theorem syms_eq {one two sg : Nat} {ahd : Bool} (h1 : one < 10) (h2 : two < 10) (hs : sg < 20) (hne : one ≠ two) (T : Nat) : (usR one two sg ahd T).map (symS (lsR one two sg)) = symsG sg ahd T := by
  obtain ⟨a, b, c, d⟩ := sym_of h1 h2 hs hne
  have hl : symS (lsR one two sg) (lastC (decide (T / 8 % 2 = 1))) = if T / 8 % 2 = 1 then 21 else 20 := by
    by_cases q : T / 8 % 2 = 1
    · rw [decide_eq_true q, if_pos q]; exact d
    · rw [decide_eq_false q, if_neg q]; exact c
  unfold usR symsG headG
  rw [List.map_append, List.map_cons, List.map_nil, hl]
  congr 1
  split
  · cases ahd
    · show [symS _ _, symS _ _] = _; rw [a, b]; rfl
    · show [symS _ _, symS _ _] = _; rw [a, b]; rfl
  · show [symS _ _] = _; rw [a]
theorem us_in {one two sg : Nat} {ahd : Bool} (h1 : one < 10) (h2 : two < 10) (hs : sg < 20) (hne : one ≠ two) (T : Nat) : ∀ c ∈ usR one two sg ahd T, c ∈ lsR one two sg ∨ (c ∉ lsR one two sg ∧ c ∈ sgTab.map (·.1)) := by
  have hf := chrS_inj h1 h2 hs hne
  have hm := mem4 hf
  have q : ∀ x ∈ headG ahd T, x = 4 ∨ x = lettG T := by
    unfold headG
    split
    · cases ahd <;> simp
    · simp
  intro c hc
  rcases List.mem_append.mp hc with hc | hc
  · obtain ⟨x, hx, rfl⟩ := List.mem_map.mp hc
    rcases q x hx with rfl | rfl
    · exact .inr ⟨fun h => absurd ((hm 4).mp h) (by decide), (sgn_op ⟨sg, hs⟩).2⟩
    · exact .inl ((hm _).mpr (lett_lt T))
  · rw [List.mem_singleton.mp hc]
    refine .inr ?_
    cases decide (T / 8 % 2 = 1)
    · exact ⟨fun h => absurd ((hm 5).mp h) (by decide), by decide⟩
    · exact ⟨fun h => absurd ((hm 6).mp h) (by decide), by decide⟩
theorem syms_in : ∀ (sg : Fin 20) (ahd : Bool) (T : Fin 16), ∀ x ∈ symsG sg ahd T, x = 256 ∨ x = 257 ∨ (0 < x ∧ x < 256 ∧ x ∈ itemsS (numG sg)) := by decide +kernel
theorem numG_in : ∀ sg : Fin 20, 0 ≤ numG sg ∧ numG sg < 200 := by decide
theorem bits4 (T : Nat) (i : Nat) : 0 ≤ ([((T % 2 : Nat) : Int), ((T / 2 % 2 : Nat) : Int), ((T / 4 % 2 : Nat) : Int), ((T / 8 % 2 : Nat) : Int)] : List Int).getD i 0 ∧ ([((T % 2 : Nat) : Int), ((T / 2 % 2 : Nat) : Int), ((T / 4 % 2 : Nat) : Int), ((T / 8 % 2 : Nat) : Int)] : List Int).getD i 0 < 2 := by
  match i with
  | 0 => show 0 ≤ ((T % 2 : Nat) : Int) ∧ ((T % 2 : Nat) : Int) < 2; omega
  | 1 => show 0 ≤ ((T / 2 % 2 : Nat) : Int) ∧ ((T / 2 % 2 : Nat) : Int) < 2; omega
  | 2 => show 0 ≤ ((T / 4 % 2 : Nat) : Int) ∧ ((T / 4 % 2 : Nat) : Int) < 2; omega
  | 3 => show 0 ≤ ((T / 8 % 2 : Nat) : Int) ∧ ((T / 8 % 2 : Nat) : Int) < 2; omega
  | n + 4 => show (0 : Int) ≤ 0 ∧ (0 : Int) < 2; omega
/-- what the law's table tells of a row's page is the row -/
theorem told_row {i1 i2 i3 one two sg r : Nat} {ahd : Bool} (q1 : i1 < 4) (q2 : i2 < 3) (q3 : i3 < 2) (h1 : one < 10) (h2 : two < 10) (hs : sg < 20) (hne : one ≠ two) (hr : r < 16) :
    toldS (numG sg) (ordS i1 i2 i3) ((usR one two sg ahd (turnT i1 i2 i3 r)).map (symS (lsR one two sg))) = (r : Int) := by
  have hT := (turn_bits q1 q2 q3 hr).1
  rw [syms_eq h1 h2 hs hne]
  unfold toldS
  have := turned_ok ⟨sg, hs⟩ ahd ⟨_, hT⟩
  dsimp only at this
  rw [this]
  exact sum_ok ⟨i1, q1⟩ ⟨i2, q2⟩ ⟨i3, q3⟩ ⟨r, hr⟩
theorem ends_S {way : Nat} (hway : way < 5) (g : Bool) (one two sg : Nat) : lsT (endS way g) = (endG (way - 2) g).map (chrS one two sg) := by
  match way, hway, g with
  | 0, _, false => rfl
  | 0, _, true => rfl
  | 1, _, false => rfl
  | 1, _, true => rfl
  | 2, _, false => rfl
  | 2, _, true => rfl
  | 3, _, false => rfl
  | 3, _, true => rfl
  | 4, _, false => rfl
  | 4, _, true => rfl
end Mine
end

section
open PySem PySem.W PySem.Calls PyProof.Rows
set_option Elab.async false
namespace Mine
local macro_rules | `(tactic| omega) => `(tactic| first | decide | lia)
set_option maxRecDepth 100000
set_option maxHeartbeats 8000000
theorem isList_name {h : Heap} {lo : Addr} {vs : Array Value} (_ : h.IsList lo vs) : ∃ l, l = lo := ⟨lo, rfl⟩
theorem ints_name {vs : List Value} {ns : List Int} (_ : IntsAre vs ns) : ∃ v n, v = vs ∧ n = ns := ⟨vs, ns, rfl, rfl⟩
theorem news_cells5 {h₀ h : Heap} {L a b c d e : Addr} {o p q r t : Obj} (_N : News h₀ L h [(a, o), (b, p), (c, q), (d, r), (e, t)]) : ∃ o' p' q' r' t', o' = o ∧ p' = p ∧ q' = q ∧ r' = r ∧ t' = t := ⟨o, p, q, r, t, rfl, rfl, rfl, rfl, rfl⟩
section
variable {prog : Program} {w : World} {A : Around} {E : Value → Shared → Prop} {s : Shared}
theorem item_eq {value slice : PySem.Expr} {l : Addr} {vs : List Value} {ns : List Int} {k : Int} {u : Tok} {x : Int} {Q : Value → Shared → Prop} (e : ns.getD k.toNat 0 = x) (hl : s.heap.IsList l vs.toArray) (hi : IntsAre vs ns)
    (h0 : 0 ≤ k) (h1 : k < ns.length) (hfit : k < 2 ^ 63) (h : ∀ t, Q (.int x t) s)
    (hs : subscripted slice false (.ref l) (.int k u) = operate [.ref l, .int k u] (getItem (.ref l) (.int k u)) := by with_unfolding_all rfl) :
    wpAny (model prog w) A (subscriptTail value slice (.ref l) (.int k u)) Q E s := item_list_intsR hl hi h0 h1 hfit (fun t => e ▸ h t) hs
theorem mod_eq {a b x : Int} {t u : Tok} {Q : Value → Shared → Prop} (e : a.fmod b = x) (hb : b ≠ 0) (h : Q (.int x s.toks) { s with toks := s.toks + 1 }) : wpAny (model prog w) A (binaryOp .Mod (.int a t) (.int b u)) Q E s := mod_int' hb (e ▸ h)
end
structure MarkS : Prop where
  out : True
theorem fm (x n : Int) (hn : 0 < n) : ∃ k : Nat, (k : Int) < n ∧ x.fmod n = (k : Int) :=
  ⟨(x.fmod n).toNat, by rw [Int.toNat_of_nonneg (Int.fmod_nonneg_of_pos x hn)]; exact Int.fmod_lt_of_pos x hn, (Int.toNat_of_nonneg (Int.fmod_nonneg_of_pos x hn)).symm⟩
theorem num_of {h₀ h : Heap} {L D : Addr} {T n sg : Nat} {more : List (Addr × Obj)} (_N : News h₀ L h ((D, listOf ([Value.int 54 T, .int 24 (T + 1), .int 7 (T + 1 + 1), .int 8 (T + 1 + 1 + 1), .int 16 (T + 1 + 1 + 1 + 1), .int 14 (T + 1 + 1 + 1 + 1 + 1), .int 12 (T + 1 + 1 + 1 + 1 + 1 + 1), .int 15 (T + 1 + 1 + 1 + 1 + 1 + 1 + 1), .int 23 (T + 1 + 1 + 1 + 1 + 1 + 1 + 1 + 1), .int 17 (T + 1 + 1 + 1 + 1 + 1 + 1 + 1 + 1 + 1), .int 11 (T + 1 + 1 + 1 + 1 + 1 + 1 + 1 + 1 + 1 + 1), .int 22 (T + 1 + 1 + 1 + 1 + 1 + 1 + 1 + 1 + 1 + 1 + 1), .int 49 (T + 1 + 1 + 1 + 1 + 1 + 1 + 1 + 1 + 1 + 1 + 1 + 1), .int 9 (T + 1 + 1 + 1 + 1 + 1 + 1 + 1 + 1 + 1 + 1 + 1 + 1 + 1), .int 10 (T + 1 + 1 + 1 + 1 + 1 + 1 + 1 + 1 + 1 + 1 + 1 + 1 + 1 + 1), .int 32 (T + 1 + 1 + 1 + 1 + 1 + 1 + 1 + 1 + 1 + 1 + 1 + 1 + 1 + 1 + 1), .int 25 (T + 1 + 1 + 1 + 1 + 1 + 1 + 1 + 1 + 1 + 1 + 1 + 1 + 1 + 1 + 1 + 1), .int 18 (T + 1 + 1 + 1 + 1 + 1 + 1 + 1 + 1 + 1 + 1 + 1 + 1 + 1 + 1 + 1 + 1 + 1), .int 26 (T + 1 + 1 + 1 + 1 + 1 + 1 + 1 + 1 + 1 + 1 + 1 + 1 + 1 + 1 + 1 + 1 + 1 + 1), .int 31 (T + 1 + 1 + 1 + 1 + 1 + 1 + 1 + 1 + 1 + 1 + 1 + 1 + 1 + 1 + 1 + 1 + 1 + 1 + 1)]).toArray n) :: more)) (hs : sg < 20) :
    ∃ tn : Tok, ([Value.int 54 T, .int 24 (T + 1), .int 7 (T + 1 + 1), .int 8 (T + 1 + 1 + 1), .int 16 (T + 1 + 1 + 1 + 1), .int 14 (T + 1 + 1 + 1 + 1 + 1), .int 12 (T + 1 + 1 + 1 + 1 + 1 + 1), .int 15 (T + 1 + 1 + 1 + 1 + 1 + 1 + 1), .int 23 (T + 1 + 1 + 1 + 1 + 1 + 1 + 1 + 1), .int 17 (T + 1 + 1 + 1 + 1 + 1 + 1 + 1 + 1 + 1), .int 11 (T + 1 + 1 + 1 + 1 + 1 + 1 + 1 + 1 + 1 + 1), .int 22 (T + 1 + 1 + 1 + 1 + 1 + 1 + 1 + 1 + 1 + 1 + 1), .int 49 (T + 1 + 1 + 1 + 1 + 1 + 1 + 1 + 1 + 1 + 1 + 1 + 1), .int 9 (T + 1 + 1 + 1 + 1 + 1 + 1 + 1 + 1 + 1 + 1 + 1 + 1 + 1), .int 10 (T + 1 + 1 + 1 + 1 + 1 + 1 + 1 + 1 + 1 + 1 + 1 + 1 + 1 + 1), .int 32 (T + 1 + 1 + 1 + 1 + 1 + 1 + 1 + 1 + 1 + 1 + 1 + 1 + 1 + 1 + 1), .int 25 (T + 1 + 1 + 1 + 1 + 1 + 1 + 1 + 1 + 1 + 1 + 1 + 1 + 1 + 1 + 1 + 1), .int 18 (T + 1 + 1 + 1 + 1 + 1 + 1 + 1 + 1 + 1 + 1 + 1 + 1 + 1 + 1 + 1 + 1 + 1), .int 26 (T + 1 + 1 + 1 + 1 + 1 + 1 + 1 + 1 + 1 + 1 + 1 + 1 + 1 + 1 + 1 + 1 + 1 + 1), .int 31 (T + 1 + 1 + 1 + 1 + 1 + 1 + 1 + 1 + 1 + 1 + 1 + 1 + 1 + 1 + 1 + 1 + 1 + 1 + 1)] : List Value)[sg]? = some (.int (numG sg) tn) ∧ @LE.le Nat _ T tn ∧ @LT.lt Nat _ tn (T + 20) := by
  match sg, hs with
  | 0, _ => exact ⟨_, rfl, by omega, by omega⟩
  | 1, _ => exact ⟨_, rfl, by omega, by omega⟩
  | 2, _ => exact ⟨_, rfl, by omega, by omega⟩
  | 3, _ => exact ⟨_, rfl, by omega, by omega⟩
  | 4, _ => exact ⟨_, rfl, by omega, by omega⟩
  | 5, _ => exact ⟨_, rfl, by omega, by omega⟩
  | 6, _ => exact ⟨_, rfl, by omega, by omega⟩
  | 7, _ => exact ⟨_, rfl, by omega, by omega⟩
  | 8, _ => exact ⟨_, rfl, by omega, by omega⟩
  | 9, _ => exact ⟨_, rfl, by omega, by omega⟩
  | 10, _ => exact ⟨_, rfl, by omega, by omega⟩
  | 11, _ => exact ⟨_, rfl, by omega, by omega⟩
  | 12, _ => exact ⟨_, rfl, by omega, by omega⟩
  | 13, _ => exact ⟨_, rfl, by omega, by omega⟩
  | 14, _ => exact ⟨_, rfl, by omega, by omega⟩
  | 15, _ => exact ⟨_, rfl, by omega, by omega⟩
  | 16, _ => exact ⟨_, rfl, by omega, by omega⟩
  | 17, _ => exact ⟨_, rfl, by omega, by omega⟩
  | 18, _ => exact ⟨_, rfl, by omega, by omega⟩
  | 19, _ => exact ⟨_, rfl, by omega, by omega⟩
  | n + 20, h => omega
theorem ord_of {h₀ h : Heap} {L D D1 : Addr} {o1 : Obj} {n i1 i2 i3 : Nat} {t0 t1 t2 t3 : Tok} {more : List (Addr × Obj)}
    (_N : News h₀ L h ((D1, o1) :: (D, listOf (List.toArray [Value.int (([0, 1, 2, 3] : List Int).getD i1 0) t0, .int ((([0, 1, 2, 3] : List Int).eraseIdx i1).getD i2 0) t1, .int (((([0, 1, 2, 3] : List Int).eraseIdx i1).eraseIdx i2).getD i3 0) t2, .int ((((([0, 1, 2, 3] : List Int).eraseIdx i1).eraseIdx i2).eraseIdx i3).getLastD 0) t3]) n) :: more)) :
    ∃ D' s0 s1 s2 s3, D' = D ∧ s0 = t0 ∧ s1 = t1 ∧ s2 = t2 ∧ s3 = t3 := ⟨D, t0, t1, t2, t3, rfl, rfl, rfl, rfl, rfl⟩
theorem hand_at {way : Nat} (h : way < 5) : ([Value.ref 94, .ref 101, .ref 115, .ref 122, .ref 108] : List Value)[way]? = some (.ref (handA way)) := by
  match way, h with
  | 0, _ => rfl
  | 1, _ => rfl
  | 2, _ => rfl
  | 3, _ => rfl
  | 4, _ => rfl
  | n + 5, h => omega
theorem ends_of {h₀ h : Heap} {L lE a0 a1 a2 a3 a4 : Addr} {n n0 n1 n2 n3 n4 way : Nat} {s0 s1 s2 s3 s4 t0 t1 t2 t3 t4 : Tok} {more : List (Addr × Obj)}
    (_N : News h₀ L h ((lE, listOf (List.toArray [.ref a0, .ref a1, .ref a2, .ref a3, .ref a4]) n) :: (a4, listOf (List.toArray [.str (Str.ofString "<") s4, .str (Str.ofString "&gt;") t4]) n4) :: (a3, listOf (List.toArray [.str (Str.ofString "&lt;") s3, .str (Str.ofString ">") t3]) n3) ::
      (a2, listOf (List.toArray [.str (Str.ofString "&lt;") s2, .str (Str.ofString "&gt;") t2]) n2) :: (a1, listOf (List.toArray [.str (Str.ofString "&lt;") s1, .str (Str.ofString "&gt;") t1]) n1) :: (a0, listOf (List.toArray [.str (Str.ofString "&lt;") s0, .str (Str.ofString "&gt;") t0]) n0) :: more)) (hw : way < 5) :
    ∃ (eA : Addr) (u0 u1 : Tok) (m : Nat), ([Value.ref a0, .ref a1, .ref a2, .ref a3, .ref a4] : List Value)[way]? = some (.ref eA) ∧ (eA, listOf (List.toArray [.str (endS way false) u0, .str (endS way true) u1]) m) ∈
      ((lE, listOf (List.toArray [.ref a0, .ref a1, .ref a2, .ref a3, .ref a4]) n) :: (a4, listOf (List.toArray [.str (Str.ofString "<") s4, .str (Str.ofString "&gt;") t4]) n4) :: (a3, listOf (List.toArray [.str (Str.ofString "&lt;") s3, .str (Str.ofString ">") t3]) n3) ::
      (a2, listOf (List.toArray [.str (Str.ofString "&lt;") s2, .str (Str.ofString "&gt;") t2]) n2) :: (a1, listOf (List.toArray [.str (Str.ofString "&lt;") s1, .str (Str.ofString "&gt;") t1]) n1) :: (a0, listOf (List.toArray [.str (Str.ofString "&lt;") s0, .str (Str.ofString "&gt;") t0]) n0) :: [] : List (Addr × Obj)) := by
  match way, hw with
  | 0, _ => exact ⟨a0, s0, t0, n0, rfl, .tail _ (.tail _ (.tail _ (.tail _ (.tail _ (.head _)))))⟩
  | 1, _ => exact ⟨a1, s1, t1, n1, rfl, .tail _ (.tail _ (.tail _ (.tail _ (.head _))))⟩
  | 2, _ => exact ⟨a2, s2, t2, n2, rfl, .tail _ (.tail _ (.tail _ (.head _)))⟩
  | 3, _ => exact ⟨a3, s3, t3, n3, rfl, .tail _ (.tail _ (.head _))⟩
  | 4, _ => exact ⟨a4, s4, t4, n4, rfl, .tail _ (.head _)⟩
  | n + 5, h => omega
theorem name2 {h₀ h : Heap} {L a b : Addr} {o p : Obj} {r : List (Addr × Obj)} (_N : News h₀ L h ((a, o) :: (b, p) :: r)) : ∃ a' b', a' = a ∧ b' = b := ⟨a, b, rfl, rfl⟩
structure MarkN : Prop where
  out : True
structure MarkT : Prop where
  out : True
structure MarkC : Prop where
  out : True
end Mine
end

section
open PySem PySem.W PySem.Calls PyProof.Rows
set_option Elab.async false
namespace Mine
local macro_rules | `(tactic| omega) => `(tactic| first | decide | lia)
set_option maxRecDepth 100000
set_option maxHeartbeats 8000000
section
variable {prog : Program} {w : World} {A : Around} {E : Value → Shared → Prop} {Q : Flow → Shared → Prop} {s : Shared} {env : Env} {h₀ : Heap} {L : Addr} {σ : Type} {m₀ : Str → Option Value}
/-- ways that meet, the ledger being left as it was and the tokens having grown -/
theorem lp_joinKT {t : Sem Flow} {news : List (Addr × Obj)} (_N : News h₀ L s.heap news) (ps : σ → List (Str × Value)) (stored : List Str) (X : σ → Prop) (F : Fr h₀ L s.heap m₀)
    (h : wpAny (model prog w) A t (LpQ h₀ L s (fun _ => news) ps stored m₀ X Q) E s)
    (done : ∀ (c : σ) (u : Str → Option Value) h tk, s.toks ≤ tk → X c → Fr h₀ L h (kstB (fun z => if stored.contains z then u z else m₀ z) (ps c)) → News h₀ L h news → Q .next { s with heap := h, toks := tk }) :
    wpAny (model prog w) A t Q E s := lp_joinT (fun _ => news) ps stored X F h done
end
theorem head_len (ahd : Bool) (T : Nat) (f : S12 → Nat) : ((headG ahd T).map f).length ≤ 2 := by
  rw [List.length_map]
  unfold headG
  split
  · cases ahd <;> exact Nat.le_of_ble_eq_true rfl
  · exact Nat.le_of_ble_eq_true rfl
theorem not7 : ∀ i : Fin 40, tab47.getD i 0 ∉ spec7 := by decide
theorem head_spec {one two sg : Nat} (h1 : one < 10) (h2 : two < 10) (hs : sg < 20) (ahd : Bool) (T : Nat) : ∀ c ∈ (headG ahd T).map (chrS one two sg), c ∉ spec7 := by
  intro c hc
  obtain ⟨x, hx, rfl⟩ := List.mem_map.mp hc
  have q : x = 4 ∨ x = lettG T := by
    unfold headG at hx
    split at hx
    · cases ahd
      · rcases hx with _ | ⟨_, _ | ⟨_, hx⟩⟩
        · exact .inr rfl
        · exact .inl rfl
        · cases hx
      · rcases hx with _ | ⟨_, _ | ⟨_, hx⟩⟩
        · exact .inl rfl
        · exact .inr rfl
        · cases hx
    · rcases hx with _ | ⟨_, hx⟩
      · exact .inr rfl
      · cases hx
  have h5 : x.val < 5 := by
    rcases q with rfl | rfl
    · decide
    · have := lett_lt T; omega
  have h := plc_40 (sg := sg) h1 h2 hs h5
  exact not7 ⟨_, h⟩
theorem headm1 {T b : Nat} (f : S12 → Nat) (h : T % 2 = b) (a : (b : Int) = 1) : (headG true T).map f = [f 4] ++ [f (lettG T)] := by
  unfold headG
  rw [if_pos (by omega)]
  rfl
theorem headm2 {T b : Nat} (f : S12 → Nat) (h : T % 2 = b) (a : (b : Int) = 1) : (headG false T).map f = [f (lettG T)] ++ [f 4] := by
  unfold headG
  rw [if_pos (by omega)]
  rfl
theorem headm3 {T b : Nat} (ahd : Bool) (f : S12 → Nat) (h : T % 2 = b) (a : (b : Int) ≠ 1) : (headG ahd T).map f = [f (lettG T)] := by
  unfold headG
  rw [if_neg (by omega)]
  rfl
theorem keep_hand (P : Params) {way : Nat} (h : way < 5) : keepIn (Mine.hd.heap_1_39 P) (.ref (handA way)) = true := by
  match way, h with
  | 0, _ => kernel_rfl
  | 1, _ => kernel_rfl
  | 2, _ => kernel_rfl
  | 3, _ => kernel_rfl
  | 4, _ => kernel_rfl
  | n + 5, h => omega
theorem len2 : (Str.ofString "<>").length = 2 := by decide +kernel
theorem endS_len (way : Nat) (g : Bool) : (lsT (endS way g)).length ≤ 4 := by
  unfold endS
  split <;> exact Nat.le_of_ble_eq_true rfl
theorem ends_at {way b : Nat} {u0 u1 : Tok} (h : b < 2) : ∃ u : Tok, ([Value.str (endS way false) u0, .str (endS way true) u1] : List Value)[b]? = some (.str (tx (lsT (endS way (decide (b = 1))))) u) := by
  match b, h with
  | 0, _ => exact ⟨u0, by rw [tx_ls]; rfl⟩
  | 1, _ => exact ⟨u1, by rw [tx_ls]; rfl⟩
  | n + 2, h => omega
theorem price_out {h₀ h : Heap} {L Dt Dq Dp : Addr} {o : Obj} {vq vp : List Value} {x pr : Int} {t u : Tok} {y : Str} {n m : Nat} {rest : List (Addr × Obj)}
    (N : News h₀ L h ((Dt, o) :: (Dq, listOf (vq.toArray.push (.int x t)) n) :: (Dp, listOf (vp.toArray.push (.str y u)) m) :: rest)) (e : x = pr) :
    ∃ t', News h₀ L h ((Dt, o) :: (Dq, listOf (vq ++ [Value.int pr t']).toArray n) :: (Dp, listOf (vp ++ [Value.str y u]).toArray m) :: rest) :=
  ⟨t, by rw [List.push_toArray, List.push_toArray, e] at N; exact N⟩
theorem price_lo {way i1 i2 i3 i T b0 b1 b2 b3 : Nat} (hT : turnT i1 i2 i3 i = T) (h0 : T % 2 = b0) (h1 : T / 2 % 2 = b1) (h2 : T / 4 % 2 = b2) (h3 : T / 8 % 2 = b3) (a : (way : Int) < 3) :
    ((2 * (b0 : Int) + if 2 * (b2 : Int) > (b1 : Int) then 2 * (b2 : Int) else (b1 : Int)) + (b3 : Int) * 2) = priceR way i1 i2 i3 i := by
  unfold priceR priceG
  rw [hT, h0, h1, h2, h3, if_pos (by omega : way - 2 = 0), Nat.max_def]
  split <;> split <;> omega
theorem price_hi {way i1 i2 i3 i T b0 b1 b2 b3 : Nat} (hT : turnT i1 i2 i3 i = T) (h0 : T % 2 = b0) (h1 : T / 2 % 2 = b1) (h2 : T / 4 % 2 = b2) (h3 : T / 8 % 2 = b3) (a : ¬ (way : Int) < 3) :
    ((2 * (b0 : Int) + if 2 * (b2 : Int) > (b1 : Int) then 2 * (b2 : Int) else (b1 : Int)) + (b3 : Int) * 8) = priceR way i1 i2 i3 i := by
  unfold priceR priceG
  rw [hT, h0, h1, h2, h3, if_neg (by omega : ¬ way - 2 = 0), Nat.max_def]
  split <;> split <;> omega
theorem page_out {way i1 i2 i3 i T b3 one two sg : Nat} {ahd G : Bool} {H Eg : List Nat} (hw : way < 5) (hT : turnT i1 i2 i3 i = T) (h3 : T / 8 % 2 = b3) (hH : (headG ahd T).map (chrS one two sg) = H) (hG : decide (b3 = 1) = G) (hE : lsT (endS way G) = Eg) :
    pageR way i1 i2 i3 one two sg ahd i = tx (H ++ Eg) := by
  unfold pageR pageG
  rw [hT, List.map_append, hH, ← ends_S hw _ one two sg, h3, hG, hE]
theorem StrsAre.snoc {vs : List Value} {ys : List Str} {y : Str} {t : Tok} (h : StrsAre vs ys) : StrsAre (vs ++ [.str y t]) (ys ++ [y]) := by
  induction h with
  | nil => exact .cons _ _ .nil
  | cons a b _ ih => exact .cons _ _ ih
theorem page_app (way i1 i2 i3 one two sg : Nat) (ahd : Bool) (i : Nat) : pageR way i1 i2 i3 one two sg ahd i = tx ((headG ahd (turnT i1 i2 i3 i)).map (chrS one two sg) ++ (endG (way - 2) (decide (turnT i1 i2 i3 i / 8 % 2 = 1))).map (chrS one two sg)) := by
  unfold pageR pageG
  rw [List.map_append]
theorem us_len (one two sg : Nat) (ahd : Bool) (T : Nat) : (usR one two sg ahd T).length ≤ 10 := by
  unfold usR
  have := head_len ahd T (chrS one two sg)
  rw [List.length_append, List.length_singleton]
  omega
theorem foldG (p : Nat → Bool) : ∀ (l : List Nat) (acc : List Int), (l.map fun (i : Nat) => (i : Int)).foldl (fun a k => if p k.toNat = true then a ++ [k] else a) acc = acc ++ nInts (l.filter p)
  | [], acc => by simp
  | x :: r, acc => by
    rw [List.map_cons, List.foldl_cons, Int.toNat_natCast, foldG p r, List.filter_cons]
    cases p x <;> simp
theorem foldG_grows (p : Nat → Bool) : KPfGrows (fun a k => if p k.toNat = true then a ++ [k] else a) := by
  intro l k
  dsimp only
  split
  · rw [List.length_append, List.length_singleton]; omega
  · omega
theorem range16 : PySem.W.rangeKs 0 16 = (List.range 16).map fun (i : Nat) => (i : Int) := by decide
theorem rows_eq {way wi i1 i2 i3 : Nat} {qs ns : List Int} (hw : way < 5) (hwi : wi < 4) (h1 : i1 < 4) (h2 : i2 < 3) (h3 : i3 < 2) (hq : qs = (List.range 16).map (priceR way i1 i2 i3)) (hn : ns = sumsS qs ((wishG (way - 2) wi : Nat) : Int) 4) :
    takP qs ((wishG (way - 2) wi : Nat) : Int) 16 = (List.range 16).filter (fun r => ns.getD r 0 == 0) := by
  have e : qs = priceL (way - 2) i1 i2 i3 := hq
  have c := code_ok' ⟨way - 2, by omega⟩ ⟨wi, hwi⟩ ⟨i1, h1⟩ ⟨i2, h2⟩ ⟨i3, h3⟩
  dsimp only at c
  rw [hn, e, c]
  rfl
theorem ne_two {one nine two : Nat} (h1 : one < 10) (h9 : nine < 9) (e : ((one : Int) + 1 + (nine : Int)).fmod 10 = (two : Int)) : one ≠ two := by
  rw [Int.fmod_eq_emod_of_nonneg _ (by decide)] at e
  omega
theorem head_len' (ahd : Bool) (T : Nat) : (headG ahd T).length ≤ 2 := by have := head_len ahd T (fun _ => 0); rw [List.length_map] at this; exact this
theorem page_len (way i1 i2 i3 one two sg : Nat) (ahd : Bool) (i : Nat) : (pageR way i1 i2 i3 one two sg ahd i).length ≤ 40 := by
  unfold pageR pageG
  rw [tx_len, List.length_map, List.length_append]
  have h1 := head_len' ahd (turnT i1 i2 i3 i)
  have h2 : ∀ k g, (endG k g).length ≤ 4 := by
    intro k g
    unfold endG refG
    split <;> (try split) <;> exact Nat.le_of_ble_eq_true rfl
  have h3 := h2 (way - 2) (decide (turnT i1 i2 i3 i / 8 % 2 = 1))
  omega
theorem item2' {b : Nat} (h : b < 2) : Txt.item (Str.ofString "<>") (b : Int) = tx [lastC (decide (b = 1))] := item2 h
/-- the end: the law answers True -/
theorem law_end {cl : Str → Option Addr} {mean : ExcName → Option Value} {os : List Int} {s₁ : Shared} {h : Heap} {tk : Nat} {L : Addr} {m : Str → Option Value} (F : Fr s₁.heap L h m) (hg : s₁.gens = #[]) :
    GoodW PySem.Challenge.rw_tc0053_01.row.claim cl mean [ofPy (PyData.list (List.map PyData.int os))] s₁ (.ok (.ret (.bool true))) { s₁ with heap := h, toks := tk } := by
  refine goodW_bool F hg (raisesW_false ?_) ?_
  · wrow_none_raised
  · wrow_post
end Mine
end

section
open PySem PySem.W PySem.Calls PyProof.Rows
namespace Mine
set_option maxRecDepth 100000
set_option maxHeartbeats 40000000
local macro_rules | `(tactic| omega) => `(tactic| first | decide | lia)
set_option maxRecDepth 100000
set_option maxHeartbeats 8000000
set_option pp.maxSteps 500
set_option linter.all false
local macro_rules | `(tactic| k_ne) => `(tactic| first | assumption | exact Ne.symm (by assumption) | exact Nat.ne_of_gt (by k_extra "andlt") | exact Nat.ne_of_lt (by k_extra "andlt"))
local macro_rules | `(tactic| mul_fits) => `(tactic| first | exact PySem.IntMulOk.of_left (PySem.intBits_le_64 (by decide) (by decide)) | exact PySem.IntMulOk.of_right (PySem.intBits_le_64 (by decide) (by decide)))
local macro_rules | `(tactic| k_all) => `(tactic| first | assumption | (refine' List.forall_mem_cons.mpr ⟨?a, ?b⟩; (case a => k_ne); (case b => assumption)))
local macro_rules | `(tactic| k_mem) => `(tactic| assumption)
local macro_rules | `(tactic| walk_at "subscriptTail Name Constant ref int") => `(tactic| k_extra "cellget")
local macro_rules | `(tactic| walk_at "binaryOp Mod int int") => `(tactic| k_extra "mod")
local macro_rules | `(tactic| walk_at "call builtin:list.pop") => `(tactic| ((with_reducible show wpAny _ _ (call (Value.builtin _) [Value.ref _]) _ _ _); k_dflt (refine' pop_last ?k1 ?k2 ?k3 ?ki ?kl ?kz ?_; (case k1 => k_asm); (case k2 => k_asm); (case k3 => k_upd); (case ki => with_reducible assumption); (case kl => omega); (case kz => omega)); intro h' t' F' N' hI'; (try k_sweep)))
local macro_rules | `(tactic| walk_at "call builtin:list.pop") => `(tactic| ((with_reducible show wpAny _ _ (call (Value.builtin _) [Value.ref _, Value.int _ _]) _ _ _); k_dflt (refine' pop_ints ?k1 ?k2 ?k3 ?ki ?kl ?kz ?_; (case k1 => k_asm); (case k2 => k_asm); (case k3 => k_upd); (case ki => first | with_reducible assumption | exact .cons _ _ (.cons _ _ (.cons _ _ (.cons _ _ .nil)))); (case kl => first | (simp only [List.length_cons, List.length_nil]; omega) | omega); (case kz => first | (simp only [List.length_cons, List.length_nil]; omega) | omega)); intro h' t' F' N' hI' hL'; (try simp only [List.length_cons, List.length_nil] at hL'); (try k_sweep)))
local macro_rules | `(tactic| walk_at "subscriptTail List cons Name ref int") => `(tactic| k_extra "listway")
local macro_rules | `(tactic| walk_at "subscriptTail List cons BinOp ref int") => `(tactic| k_extra "number")
local macro_rules | `(tactic| w_call $k $ho $hd $hcd $hD $T $F) => `(tactic| ((have he := Dflts.none $hD rfl); (subst he); (have he := Dflts.noKw $hD); (subst he); (refine call_cellsNT (by decide) $ho (fd_plain $hd) (Top.nolimit $T) $hcd rfl (kinds_of (by kinds_ok)) (by decide) fun h₁ tk₁ cells hle₁ $F N0 X0 => ?_); (cells_open X0)))
local macro_rules | `(tactic| walk_at "execs cons") => `(tactic| k_extra "execsT")
local macro_rules | `(tactic| walk_at "execs nil") => `(tactic| k_extra "execsN")
local macro_rules | `(tactic| walk_at "forall") => `(tactic| ((with_reducible show ∀ tk : Nat, _ ≤ tk → TkGe _ _ → _); k_extra "tkge"))
local macro_rules | `(tactic| walk_at "exec If") => `(tactic| k_extra "exec If")
local macro_rules | `(tactic| walk_at "call ref") => `(tactic| ((with_reducible show wpAny _ _ (call (Value.ref 129) _) _ _ _); (refine' c_cells _ _ _ _ _ _ _ _ ?cho ?chl _ _ _ _ _ _ _ _ _ _ _ _ _ _ _ _ _ ?chB ?chF ?chX ?chN ?chT ?chk ?chd ?chu ?_); (case chB => k_asm); (case chF => k_asm); (case chX => k_asm); (case chN => k_asm); (case chT => k_asm); (case chk => first | exact rfl | assumption); (case chd => first | ktr_room | (dsimp only; omega)); (case chu => first | ktr_units | (dsimp only; omega)); (case cho => assumption); (case chl => omega); (refine ⟨by assumption, ?_⟩; intro D9 v9 n9 c9 h9 tk9 P9 I9 A9 F9 N9); (try dsimp only)))
local macro_rules | `(tactic| walk_at "call ref") => `(tactic| k_extra "stopcall")
local macro_rules | `(tactic| walk_at "subscriptTail Name BinOp str int") => `(tactic| k_extra "letter")
local macro_rules | `(tactic| walk_at "subscriptTail") => `(tactic| ((with_reducible show wpAny _ _ (subscriptTail _ _ (Value.str _ _) (Value.int _ _)) _ _ _); k_extra "sign2"))
local macro_rules | `(tactic| walk_at "subscriptTail Name Subscript ref int") => `(tactic| k_extra "endsget")
local macro_rules | `(tactic| walk_at "binaryOp Add str str") => `(tactic| k_extra "addtx")
local macro_rules | `(tactic| walk_at "callWith ref") => `(tactic| k_extra "callhand")
local macro_rules | `(tactic| walk_at "call builtin:list.append") => `(tactic| k_extra "append")
local macro_rules | `(tactic| walk_at "subscriptTail Name Name ref int") => `(tactic| k_extra "pageget")
local macro_rules | `(tactic| walk_at "eval ListComp") => `(tactic| k_extra "stoplc")
local macro_rules | `(tactic| walk_at "compareOp Eq ref ref") => `(tactic| k_extra "stopeq")
local macro_rules | `(tactic| walk_at "CompSrcT") => `(tactic| k_extra "stopsrc")
theorem law_main : PySem.Challenge.rw_tc0053_01.Holds := by
  refine @MineH.hdT (MineH.Walked.of (by rfl) ?_)
  w_on
  w_strict (
    k_fill
    intro w s₀ s₁ mg mb G Y fa o pm cd doc dV kV ho hd hcd hD hmg hg args vals as hpre hlay hrd hwl hlo htk
    have KX : (Mine.hd.heap_1_39 w.params).In s₁.heap := Y
    k_behind G ho hd hcd hD hmg hpre hlay hrd hwl hlo cd
    (try dsimp only))
  clear Y hcd hD
  have hroom : ∀ n, n ≤ 5 → callerA.depth + 1 + n < recursionLimit := by
    intro n hn
    have : callerA.depth + 1 + 5 < recursionLimit := by decide
    omega
  have hunits : ∀ n, n ≤ 40 → callerA.units + 3 + n < cLine := by
    intro n hn
    have : callerA.units + 3 + 40 < cLine := by decide +kernel
    omega
  (rename Heap.IsList _ _ _ => hLs)
  (rename IntsAre _ _ => hIs)
  obtain ⟨lo, hlo'⟩ := isList_name hLs
  obtain ⟨vo, os, hvo', hos'⟩ := ints_name hIs
  subst hlo' hvo' hos'
  (rename Fr _ _ _ _ => lF0)
  (rename News _ _ _ _ => lN)
  (rename CellsAre _ _ _ => hCA)
  clear hCA
  obtain ⟨c5, c4, c3, c2, c1, e5, e4, e3, e2, e1⟩ := news_cells5 lN
  subst e5 e4 e3 e2 e1
  (rename c1.data = _ => hd1)
  (rename c2.data = _ => hd2)
  (rename c3.data = _ => hd3)
  (rename c4.data = _ => hd4)
  (rename c5.data = _ => hd5)
  have hc1 : c1.data = Data.cell none := hd1
  have hc2 : c2.data = Data.cell none := hd2
  have hc3 : c3.data = Data.cell none := hd3
  have hc4 : c4.data = Data.cell none := hd4
  have hc5 : c5.data = Data.cell none := hd5
  clear hd1 hd2 hd3 hd4 hd5
  have lF : Fr s₁.heap s₁.heap.objs.size _ (kstB (fun _ => none) [(Str.ofString "script", .ref lo)]) := lF0
  clear lF0
  let B1 : Nat := s₁.heap.objs.size + 1
  let B2 : Nat := B1 + 1
  let B3 : Nat := B2 + 1
  let B4 : Nat := B3 + 1
  let B5 : Nat := B4 + 1
  replace lN : News s₁.heap s₁.heap.objs.size _ [(B5, c5), (B4, c4), (B3, c3), (B2, c2), (B1, c1)] := lN
  have nB12 : B1 ≠ B2 := Nat.ne_of_lt (Nat.lt_add_of_pos_right (n := B1) (k := 1) (by decide))
  have nB13 : B1 ≠ B3 := Nat.ne_of_lt (Nat.lt_add_of_pos_right (n := B1) (k := 2) (by decide))
  have nB14 : B1 ≠ B4 := Nat.ne_of_lt (Nat.lt_add_of_pos_right (n := B1) (k := 3) (by decide))
  have nB15 : B1 ≠ B5 := Nat.ne_of_lt (Nat.lt_add_of_pos_right (n := B1) (k := 4) (by decide))
  have nB23 : B2 ≠ B3 := Nat.ne_of_lt (Nat.lt_add_of_pos_right (n := B2) (k := 1) (by decide))
  have nB24 : B2 ≠ B4 := Nat.ne_of_lt (Nat.lt_add_of_pos_right (n := B2) (k := 2) (by decide))
  have nB25 : B2 ≠ B5 := Nat.ne_of_lt (Nat.lt_add_of_pos_right (n := B2) (k := 3) (by decide))
  have nB34 : B3 ≠ B4 := Nat.ne_of_lt (Nat.lt_add_of_pos_right (n := B3) (k := 1) (by decide))
  have nB35 : B3 ≠ B5 := Nat.ne_of_lt (Nat.lt_add_of_pos_right (n := B3) (k := 2) (by decide))
  have nB45 : B4 ≠ B5 := Nat.ne_of_lt (Nat.lt_add_of_pos_right (n := B4) (k := 1) (by decide))
  (rename Below _ _ _ _ => hBelow0)
  have hBelow : Below callerA s₁.heap [] s₁.heap := hBelow0
  clear hBelow0
  k_with_none
  k_with "exec While" => refine Stop.out ?_
  k_with "LpQ" => first | refine lpQ_ret ?_ | refine lpQ_next ?_ | refine lpQ_brk ?_ | refine lpQ_cont ?_
  k_with "LpPost" => first | refine lpPost_ret ?_ | refine lpPost_next ?_ | refine lpPost_brk ?_ | refine lpPost_cont ?_
  k_with "go" => repeat' (first | (k_unfold; (try dsimp only)) | walk1 | (dsimp only; walk1) | (leave1; try dsimp only))
  k_with "hr" => (intro z h2 h3; (simp only [List.forall_mem_cons, List.not_mem_nil, false_implies, implies_true, and_true, ne_eq] at h2); (simp only [List.contains_cons, List.contains_nil, Bool.or_false, Bool.or_eq_false_iff, beq_eq_false_iff_ne, ne_eq] at h3); (simp [kstB, h2, h3]; done))
  k_with "lp" => ((case hF => assumption); (case hk => kst_all); (case hN => assumption); (case hs => kstt_sub); (case hr => k_extra "hr"))
  k_with "subscriptTail Name Slice str ref" => ((with_reducible show wpAny _ _ (subscriptTail _ (Expr.Slice none (some (Expr.BoolOp _ _ _)) none _) _ _) _ _ _); (rename Fr _ _ _ _ => lF'); (rename News _ _ _ _ => lN'); (try dsimp only); (refine slice_strN_nn (hsz := ?hsz) (s := ⟨_, _, _, _, _⟩) lF' lN' ?_); (case hsz => size_fits); intro _ _ _ _ _; (try rw [slice_nn]))
  k_with "ite" => first | (refine ine_t (by omega) ?_) | (refine ine_f (by omega) ?_)
  k_with "exec For" => ((rename Fr _ _ _ _ => lF'); (with_unfolding_all refine' For_invVF lF' ?k1 ?k2 ?_; (case k1 => exact rfl); (case k2 => exact rfl); k_whole))
  k_with "pyIter ref" => refine Stop.out ?_
  (rename s₁.toks ≤ _ => hle1)
  k_with "andlt" => ((rename @LT.lt Nat _ _ _ ∧ _ => hq); first | exact hq.1 | exact hq.2.1 | exact hq.2.2.1 | exact hq.2.2.2.1 | exact hq.2.2.2.2.1 | exact hq.2.2.2.2.2.1 | exact hq.2.2.2.2.2.2.1 | exact hq.2.2.2.2.2.2.2.1 | exact hq.2.2.2.2.2.2.2.2.1 | exact hq.2.2.2.2.2.2.2.2.2.1 | exact hq.2.2.2.2.2.2.2.2.2.2.1 | exact hq.2.2.2.2.2.2.2.2.2.2.2.1 | exact hq.2.2.2.2.2.2.2.2.2.2.2.2.1 | exact hq.2.2.2.2.2.2.2.2.2.2.2.2.2.1 | exact hq.2.2.2.2.2.2.2.2.2.2.2.2.2.2.1 | exact hq.2.2.2.2.2.2.2.2.2.2.2.2.2.2.2.1 | exact hq.2.2.2.2.2.2.2.2.2.2.2.2.2.2.2.2.1 | exact hq.2 | exact hq.2.2 | exact hq.2.2.2 | exact hq.2.2.2.2 | exact hq.2.2.2.2.2 | exact hq.2.2.2.2.2.2 | exact hq.2.2.2.2.2.2.2 | exact hq.2.2.2.2.2.2.2.2 | exact hq.2.2.2.2.2.2.2.2.2 | exact hq.2.2.2.2.2.2.2.2.2.2 | exact hq.2.2.2.2.2.2.2.2.2.2.2 | exact hq.2.2.2.2.2.2.2.2.2.2.2.2 | exact hq.2.2.2.2.2.2.2.2.2.2.2.2.2 | exact hq.2.2.2.2.2.2.2.2.2.2.2.2.2.2 | exact hq.2.2.2.2.2.2.2.2.2.2.2.2.2.2.2 | exact hq.2.2.2.2.2.2.2.2.2.2.2.2.2.2.2.2 | (clear hq; k_extra "andlt"))
  k_with "tkge" => ((try ((rename TkGe _ _ => hOld); clear hOld)); intro tkn hTkn hTk; (try dsimp only at hTkn); (try dsimp only at hTk); (try dsimp only))
  k_with "tkge" => ((rename MarkN => hM); refine Stop.out ?_)
  k_with "execsT" => (k_here; refine execs_consL (by with_reducible assumption) ?_)
  k_with "execsN" => ((rename TkGe _ _ => hM); k_here; refine wpAny_execs_nil ?_)
  refine tkge_of (Nat.le_trans htk hle1) fun hTk => ?_
  k_with "listway" => ((try dsimp only); refine Stop.out ?_)
  k_with "number" => ((try dsimp only); refine Stop.out ?_)
  k_with "lmem" => first | exact List.mem_cons_self | (refine List.mem_cons_of_mem _ ?_; k_extra "lmem")
  k_with "stopcall" => ((rename MarkC => hM); refine Stop.out ?_)
  have hMC : MarkC := ⟨trivial⟩
  have hMS : MarkS := ⟨trivial⟩
  k_with "exec If" => ((rename MarkS => hM); refine Stop.out ?_)
  k_extra "go"
  all_goals (try refine Stop.mk ?_)
  ((with_reducible show wpAny _ _ (call (Value.ref 129) _) _ _ _); (refine' c_cells _ _ _ _ _ _ _ _ ?cho ?chl _ _ _ _ _ _ _ _ _ _ _ _ _ _ _ _ _ ?chB ?chF ?chX ?chN ?chT ?chk ?chd ?chu ?_); (case chB => k_asm); (case chF => k_asm); (case chX => k_asm); (case chN => k_asm); (case chT => k_asm); (case chk => first | exact rfl | assumption); (case chd => first | ktr_room | (dsimp only; omega)); (case chu => first | ktr_units | (dsimp only; omega)); (case cho => assumption); (case chl => omega); (refine ⟨by assumption, ?_⟩; intro D9 v9 n9 c9 h9 tk9 P9 I9 A9 F9 N9); (try dsimp only))
  (rename MarkC => hMC)
  clear hMC
  have b5 : B5 ≠ D9 := A9 _ (.head _)
  have b4 : B4 ≠ D9 := A9 _ (.tail _ (.head _))
  have b3 : B3 ≠ D9 := A9 _ (.tail _ (.tail _ (.head _)))
  have b2 : B2 ≠ D9 := A9 _ (.tail _ (.tail _ (.tail _ (.head _))))
  have b1 : B1 ≠ D9 := A9 _ (.tail _ (.tail _ (.tail _ (.tail _ (.head _)))))
  clear A9
  have hl9 : n9.length = 4 := P9.1
  clear P9
  obtain ⟨x0, ex0⟩ : ∃ x, n9.getD (Int.toNat 0) 0 = x := ⟨_, rfl⟩
  obtain ⟨x1, ex1⟩ : ∃ x, n9.getD (Int.toNat 1) 0 = x := ⟨_, rfl⟩
  obtain ⟨x2, ex2⟩ : ∃ x, n9.getD (Int.toNat 2) 0 = x := ⟨_, rfl⟩
  obtain ⟨x3, ex3⟩ : ∃ x, n9.getD (Int.toNat 3) 0 = x := ⟨_, rfl⟩
  obtain ⟨way, hway, eway⟩ := fm x0 5 (by decide)
  obtain ⟨wi, hwi, ewi⟩ := fm (x0.fdiv 5) 4 (by decide)
  obtain ⟨i1, hi1, ei1⟩ := fm x1 4 (by decide)
  obtain ⟨i2, hi2, ei2⟩ := fm (x1.fdiv 4) 3 (by decide)
  obtain ⟨i3, hi3, ei3⟩ := fm (x1.fdiv 12) 2 (by decide)
  obtain ⟨bi, hbi, ebi⟩ := fm (x1.fdiv 24) 4 (by decide)
  obtain ⟨sg, hsg, esg⟩ := fm x2 20 (by decide)
  obtain ⟨ah, hah, eah⟩ := fm (x2.fdiv 20) 2 (by decide)
  obtain ⟨one, hone, eone⟩ := fm x3 10 (by decide)
  obtain ⟨nine, hnine, enine⟩ := fm (x3.fdiv 10) 9 (by decide)
  have qi1 : i1 < 4 := by omega
  have qi2 : i2 < 3 := by omega
  have qi3 : i3 < 2 := by omega
  obtain ⟨two, htwo, etwo⟩ := fm ((one : Int) + 1 + (nine : Int)) 10 (by decide)
  k_with "cellget" => ((try dsimp only); (first | (refine' item_eq ex0 ?siL I9 ?si0 ?si1 ?si2 ?_ ?siS) | (refine' item_eq ex1 ?siL I9 ?si0 ?si1 ?si2 ?_ ?siS) | (refine' item_eq ex2 ?siL I9 ?si0 ?si1 ?si2 ?_ ?siS) | (refine' item_eq ex3 ?siL I9 ?si0 ?si1 ?si2 ?_ ?siS)); (case siL => exact News.isList (by assumption) (by k_extra "lmem")); (case si0 => decide); (case si1 => (rw [hl9]; decide)); (case si2 => decide); (case siS => with_unfolding_all rfl); intro tS)
  k_with "mod" => with_reducible first | refine mod_eq eway (by decide) ?_ | refine mod_eq ewi (by decide) ?_ | refine mod_eq ei1 (by decide) ?_ | refine mod_eq ei2 (by decide) ?_ | refine mod_eq ei3 (by decide) ?_ | refine mod_eq ebi (by decide) ?_ | refine mod_eq esg (by decide) ?_ | refine mod_eq eah (by decide) ?_ | refine mod_eq eone (by decide) ?_ | refine mod_eq enine (by decide) ?_ | refine mod_eq etwo (by decide) ?_
  k_extra "go"
  refine Stop.mk ?_
  (try clear lF)
  (try clear lN)
  (rename Fr _ _ _ _ => lF)
  (rename News _ _ _ _ => lN)
  refine' lp_join (σ := Int × Tok) (fun _ => [(D9, listOf v9.toArray c9), (B5, c5), (B4, c4), (B3, c3), (B2, c2), (B1, c1)]) (fun c => [(Str.ofString "wish", .int c.1 c.2)]) []
    (fun c => c.1 = ((wishG (way - 2) wi : Nat) : Int)) lF ?jn ?jnd
  case jn =>
    (rename MarkS => hMS)
    clear hMS
    k_extra "go"
    all_goals (refine' lpEx (σ := Int × Tok) (_, _) ?hF ?hN ?hs ?hk ?hr ?hx; (case hF => assumption); (case hk => kst_all); (case hN => assumption); (case hs => exact fun p hp => by rw [List.append_nil] at hp; exact hp); (case hr => k_extra "hr"); (case hx => (unfold wishG; split <;> omega)))
  clear lF lN
  intro cw uw hw tkw hPw lF lN
  obtain ⟨wish, tw⟩ := cw
  dsimp only at hPw
  subst hPw
  (try dsimp only)
  k_extra "go"
  refine Stop.mk ?_
  (rename News _ _ _ _ => lN2)
  (rename TkGe _ _ => hTk)
  have hsg' : sg < 20 := by omega
  obtain ⟨tn, hnv, hnt1, hnt2⟩ := num_of lN2 hsg'
  have hq := hTk.out
  dsimp only at hq
  have htn1 : @LE.le Nat _ 400 tn := by omega
  refine' item_listR (x := .int (numG sg) tn) (lN2.isList (.head _)) ?i0 ?i1 ?i2 ?_ ?iS
  case i0 => omega
  case i1 => omega
  case i2 => rw [List.getElem?_toArray, Int.toNat_natCast]; exact hnv
  case iS => with_unfolding_all rfl
  have hMN : MarkN := ⟨trivial⟩
  k_extra "go"
  refine Stop.mk ?_
  intro tk3 hle3 hTk3
  clear hTk
  dsimp only at hle3
  dsimp only
  refine tkge_of (n := tn + 1) (by dsimp only; omega) fun hTk => ?_
  clear hTk3 hq hle3
  (rename MarkN => hMN)
  clear hMN
  (try clear lF)
  (rename Fr _ _ _ _ => lF)
  (rename News _ _ _ _ => lN3)
  obtain ⟨lor, t0, t1, t2, t3, g0, g1, g2, g3, g4⟩ := ord_of lN3
  subst g0 g1 g2 g3 g4
  refine execs_consL hTk ?_
  refine' lp_joinK (σ := Bool) lN3 (fun c => [(Str.ofString "ahead", .bool c)]) [] (fun c => c = decide (2 < way ∨ ah = 0)) lF ?jn2 ?jnd2
  case jn2 =>
    k_extra "go"
    · refine' lpExK (σ := Bool) _ ?hFa ?hNa ?hsa ?hka ?hra ?hxa; (case hFa => assumption); (case hka => kst_all); (case hNa => assumption); (case hsa => exact fun p hp => hp); (case hra => k_extra "hr")
      case hxa => rw [decide_eq_decide]; omega
    · refine' lpExK (σ := Bool) _ ?hFb ?hNb ?hsb ?hkb ?hrb ?hxb; (case hFb => assumption); (case hkb => kst_all); (case hNb => assumption); (case hsb => exact fun p hp => hp); (case hrb => k_extra "hr")
      case hxb =>
        have e : ((ah : Int) == 0) = decide (ah = 0) := by
          by_cases hz : ah = 0
          · rw [hz]; rfl
          · rw [decide_eq_false hz]; exact beq_eq_false_iff_ne.mpr (by omega)
        rw [e, decide_eq_decide]; omega
  clear lF lN3
  intro ahd ua ha tka hPa lF lN
  k_extra "go"
  refine Stop.mk ?_
  (try clear lF)
  (try clear lN)
  (rename News _ _ _ _ => lN)
  have hway' : way < 5 := by omega
  refine' item_listR (x := .ref (handA way)) (lN.isList (.head _)) ?i0b ?i1b ?i2b ?_ ?iSb
  case i0b => omega
  case i1b => omega
  case i2b => rw [List.getElem?_toArray, Int.toNat_natCast]; exact hand_at hway'
  case iSb => with_unfolding_all rfl
  k_extra "go"
  refine Stop.mk ?_
  (try clear lF)
  (try clear lN)
  (rename News _ _ _ _ => lN)
  obtain ⟨eA, u0, u1, me, hev, hem⟩ := ends_of lN hway'
  refine' item_listR (x := .ref eA) (lN.isList (.head _)) ?i0c ?i1c ?i2c ?_ ?iSc
  case i0c => omega
  case i1c => omega
  case i2c => rw [List.getElem?_toArray, Int.toNat_natCast]; exact hev
  case iSc => with_unfolding_all rfl
  k_extra "go"
  refine Stop.mk ?_
  (try clear lF)
  (try clear lN)
  (rename IsRange _ _ _ _ _ _ _ _ => rgX)
  (rename Fr _ _ _ _ => lF)
  (rename News _ _ _ _ => lN)
  obtain ⟨Dq, Dp, eq1, eq2⟩ := name2 lN
  subst eq1 eq2
  (rename @LT.lt Nat _ Dp Dq ∧ _ => hlq)
  (rename @LT.lt Nat _ _ Dp ∧ _ => hlp)
  obtain ⟨R, lN5, rq, rp, r5, rE, r4, r3, r2, r1, n1, n2, n3⟩ := cut5 (E := [_, _, _, _, _, _, _, _, _, _, _]) lN (List.forall_mem_cons.mpr ⟨⟨_, _, rfl⟩, List.forall_mem_cons.mpr ⟨⟨_, _, rfl⟩, List.forall_mem_cons.mpr ⟨⟨_, _, rfl⟩, List.forall_mem_cons.mpr ⟨⟨_, _, rfl⟩, List.forall_mem_cons.mpr ⟨⟨_, _, rfl⟩, List.forall_mem_cons.mpr ⟨⟨_, _, rfl⟩, List.forall_mem_cons.mpr ⟨⟨_, _, rfl⟩, List.forall_mem_cons.mpr ⟨⟨_, _, rfl⟩, List.forall_mem_cons.mpr ⟨⟨_, _, rfl⟩, List.forall_mem_cons.mpr ⟨⟨_, _, rfl⟩, List.forall_mem_cons.mpr ⟨⟨_, _, rfl⟩, List.forall_mem_nil _⟩⟩⟩⟩⟩⟩⟩⟩⟩⟩⟩) hc5 ⟨by show @Ne Nat _ _; omega, by show @Ne Nat _ _; omega, by show @Ne Nat _ _; omega, by show @Ne Nat _ _; omega⟩ (List.forall_mem_cons.mpr ⟨Nat.ne_of_lt hlq.1, List.forall_mem_cons.mpr ⟨Nat.ne_of_lt hlq.2.1, List.forall_mem_cons.mpr ⟨Nat.ne_of_lt hlq.2.2.1, List.forall_mem_cons.mpr ⟨Nat.ne_of_lt hlq.2.2.2.1, List.forall_mem_cons.mpr ⟨Nat.ne_of_lt hlq.2.2.2.2.1, List.forall_mem_cons.mpr ⟨Nat.ne_of_lt hlq.2.2.2.2.2.1, List.forall_mem_cons.mpr ⟨Nat.ne_of_lt hlq.2.2.2.2.2.2.1, List.forall_mem_cons.mpr ⟨Nat.ne_of_lt hlq.2.2.2.2.2.2.2.1, List.forall_mem_cons.mpr ⟨Nat.ne_of_lt hlq.2.2.2.2.2.2.2.2.1, List.forall_mem_cons.mpr ⟨Nat.ne_of_lt hlq.2.2.2.2.2.2.2.2.2.1, List.forall_mem_cons.mpr ⟨Nat.ne_of_lt hlq.2.2.2.2.2.2.2.2.2.2.1, List.forall_mem_cons.mpr ⟨Nat.ne_of_lt hlq.2.2.2.2.2.2.2.2.2.2.2.1, List.forall_mem_cons.mpr ⟨Nat.ne_of_lt hlq.2.2.2.2.2.2.2.2.2.2.2.2.1, List.forall_mem_cons.mpr ⟨Nat.ne_of_lt hlq.2.2.2.2.2.2.2.2.2.2.2.2.2.1, List.forall_mem_cons.mpr ⟨Nat.ne_of_lt hlq.2.2.2.2.2.2.2.2.2.2.2.2.2.2.1, List.forall_mem_cons.mpr ⟨Nat.ne_of_lt hlq.2.2.2.2.2.2.2.2.2.2.2.2.2.2.2.1, List.forall_mem_cons.mpr ⟨Nat.ne_of_lt hlq.2.2.2.2.2.2.2.2.2.2.2.2.2.2.2.2, List.forall_mem_nil _⟩⟩⟩⟩⟩⟩⟩⟩⟩⟩⟩⟩⟩⟩⟩⟩⟩) (List.forall_mem_cons.mpr ⟨Nat.ne_of_lt hlp.1, List.forall_mem_cons.mpr ⟨Nat.ne_of_lt hlp.2.1, List.forall_mem_cons.mpr ⟨Nat.ne_of_lt hlp.2.2.1, List.forall_mem_cons.mpr ⟨Nat.ne_of_lt hlp.2.2.2.1, List.forall_mem_cons.mpr ⟨Nat.ne_of_lt hlp.2.2.2.2.1, List.forall_mem_cons.mpr ⟨Nat.ne_of_lt hlp.2.2.2.2.2.1, List.forall_mem_cons.mpr ⟨Nat.ne_of_lt hlp.2.2.2.2.2.2.1, List.forall_mem_cons.mpr ⟨Nat.ne_of_lt hlp.2.2.2.2.2.2.2.1, List.forall_mem_cons.mpr ⟨Nat.ne_of_lt hlp.2.2.2.2.2.2.2.2.1, List.forall_mem_cons.mpr ⟨Nat.ne_of_lt hlp.2.2.2.2.2.2.2.2.2.1, List.forall_mem_cons.mpr ⟨Nat.ne_of_lt hlp.2.2.2.2.2.2.2.2.2.2.1, List.forall_mem_cons.mpr ⟨Nat.ne_of_lt hlp.2.2.2.2.2.2.2.2.2.2.2.1, List.forall_mem_cons.mpr ⟨Nat.ne_of_lt hlp.2.2.2.2.2.2.2.2.2.2.2.2.1, List.forall_mem_cons.mpr ⟨Nat.ne_of_lt hlp.2.2.2.2.2.2.2.2.2.2.2.2.2.1, List.forall_mem_cons.mpr ⟨Nat.ne_of_lt hlp.2.2.2.2.2.2.2.2.2.2.2.2.2.2.1, List.forall_mem_cons.mpr ⟨Nat.ne_of_lt hlp.2.2.2.2.2.2.2.2.2.2.2.2.2.2.2, List.forall_mem_nil _⟩⟩⟩⟩⟩⟩⟩⟩⟩⟩⟩⟩⟩⟩⟩⟩)
  have rA := rE _ (List.mem_append_left [_, _, _, _, _] hem)
  have rO := rE _ (.tail _ (.tail _ (.tail _ (.tail _ (.tail _ (.tail _ (.tail _ (.tail _ (.head _)))))))))
  clear rE lN hlq hlp hem hnv hev
  have hsz : sg < 20 := by omega
  k_with "stopcall" => ((rename MarkC => hM); refine Stop.out ?_)
  rw [sign_eq (one := one) (two := two) hsz] at lF
  (rename _ = Data.cell (some (Value.str _ _)) => hdl)
  rw [letters_eq (sg := sg) (by omega) (by omega)] at hdl
  repeat ((rename _ ∧ _ => hjunk); clear hjunk)
  refine' lp_range (σ := ((List Value × List Int) × Nat) × ((List Value × List Str) × Nat)) 16 (fun c => (Dq, listOf c.1.1.1.toArray c.1.2) :: (Dp, listOf c.2.1.1.toArray c.2.2) :: (B5, c5) :: R) (fun c => []) [Str.ofString "turned", Str.ofString "head", Str.ofString "page"]
    (fun i c => IntsAre c.1.1.1 c.1.1.2 ∧ c.1.1.2 = (List.range i).map (priceR way i1 i2 i3) ∧ StrsAre c.2.1.1 c.2.1.2 ∧ c.2.1.2 = (List.range i).map (pageR way i1 i2 i3 one two sg ahd)) ((([], []), _), (([], []), _)) rfl rgX (small_one (by omega) (by omega) (by omega) (by omega)) (by rw [rangeSize_nat]; rfl) lF lN5 ?hk6 ?hp6 ?ha6 ?turn6 ?done6
  (case hk6 => kst_all)
  (case hp6 => exact ⟨.nil, rfl, .nil, rfl⟩)
  (case ha6 => exact fun _ => rfl)
  case turn6 =>
    k_with_none
    k_with "exec While" => refine Stop.out ?_
    k_with "LpQ" => first | refine lpQ_ret ?_ | refine lpQ_next ?_ | refine lpQ_brk ?_ | refine lpQ_cont ?_
    k_with "LpPost" => first | refine lpPost_ret ?_ | refine lpPost_next ?_ | refine lpPost_brk ?_ | refine lpPost_cont ?_
    k_with "go" => repeat' (first | (k_unfold; (try dsimp only)) | walk1 | (dsimp only; walk1) | (leave1; try dsimp only))
    k_with "hr" => (intro z h2 h3; (simp only [List.forall_mem_cons, List.not_mem_nil, false_implies, implies_true, and_true, ne_eq] at h2); (simp only [List.contains_cons, List.contains_nil, Bool.or_false, Bool.or_eq_false_iff, beq_eq_false_iff_ne, ne_eq] at h3); (simp [kstB, h2, h3]; done))
    k_with "lp" => ((case hF => assumption); (case hk => kst_all); (case hN => assumption); (case hs => kstt_sub); (case hr => k_extra "hr"))
    k_with "subscriptTail Name Slice str ref" => ((with_reducible show wpAny _ _ (subscriptTail _ (Expr.Slice none (some (Expr.BoolOp _ _ _)) none _) _ _) _ _ _); (rename Fr _ _ _ _ => lF'); (rename News _ _ _ _ => lN'); (try dsimp only); (refine slice_strN_nn (hsz := ?hsz) (s := ⟨_, _, _, _, _⟩) lF' lN' ?_); (case hsz => size_fits); intro _ _ _ _ _; (try rw [slice_nn]))
    k_with "ite" => first | (refine ine_t (by omega) ?_) | (refine ine_f (by omega) ?_)
    k_with "exec For" => ((rename Fr _ _ _ _ => lF'); (with_unfolding_all refine' For_invVF lF' ?k1 ?k2 ?_; (case k1 => exact rfl); (case k2 => exact rfl); k_whole))
    k_with "pyIter ref" => refine Stop.out ?_
    k_with "tkge" => ((try ((rename TkGe _ _ => hOld); clear hOld)); intro tkn hTkn hTk; (try dsimp only at hTkn); (try dsimp only at hTk); (try dsimp only))
    k_with "tkge" => ((rename MarkN => hM); refine Stop.out ?_)
    k_with "execsT" => (k_here; refine execs_consL (by with_reducible assumption) ?_)
    k_with "execsN" => ((rename TkGe _ _ => hM); k_here; refine wpAny_execs_nil ?_)
    k_with "listway" => ((try dsimp only); refine Stop.out ?_)
    k_with "number" => ((try dsimp only); refine Stop.out ?_)
    k_with "lmem" => first | exact List.mem_cons_self | (refine List.mem_cons_of_mem _ ?_; k_extra "lmem")
    k_with "stopcall" => ((rename MarkC => hM); refine Stop.out ?_)
    k_with "exec If" => ((rename MarkS => hM); refine Stop.out ?_)
    k_with "cellget" => ((try dsimp only); (first | (refine' item_eq ex0 ?siL I9 ?si0 ?si1 ?si2 ?_ ?siS) | (refine' item_eq ex1 ?siL I9 ?si0 ?si1 ?si2 ?_ ?siS) | (refine' item_eq ex2 ?siL I9 ?si0 ?si1 ?si2 ?_ ?siS) | (refine' item_eq ex3 ?siL I9 ?si0 ?si1 ?si2 ?_ ?siS)); (case siL => exact News.isList (by assumption) (by k_extra "lmem")); (case si0 => decide); (case si1 => (rw [hl9]; decide)); (case si2 => decide); (case siS => with_unfolding_all rfl); intro tS)
    k_with "mod" => with_reducible first | refine mod_eq eway (by decide) ?_ | refine mod_eq ewi (by decide) ?_ | refine mod_eq ei1 (by decide) ?_ | refine mod_eq ei2 (by decide) ?_ | refine mod_eq ei3 (by decide) ?_ | refine mod_eq ebi (by decide) ?_ | refine mod_eq esg (by decide) ?_ | refine mod_eq eah (by decide) ?_ | refine mod_eq eone (by decide) ?_ | refine mod_eq enine (by decide) ?_ | refine mod_eq etwo (by decide) ?_
    k_with "andlt" => ((rename @LT.lt Nat _ _ _ ∧ _ => hq); first | exact hq.1 | exact hq.2.1 | exact hq.2.2.1 | exact hq.2.2.2.1 | exact hq.2.2.2.2.1 | exact hq.2.2.2.2.2.1 | exact hq.2.2.2.2.2.2.1 | exact hq.2.2.2.2.2.2.2.1 | exact hq.2.2.2.2.2.2.2.2.1 | exact hq.2.2.2.2.2.2.2.2.2.1 | exact hq.2.2.2.2.2.2.2.2.2.2.1 | exact hq.2.2.2.2.2.2.2.2.2.2.2.1 | exact hq.2.2.2.2.2.2.2.2.2.2.2.2.1 | exact hq.2.2.2.2.2.2.2.2.2.2.2.2.2.1 | exact hq.2.2.2.2.2.2.2.2.2.2.2.2.2.2.1 | exact hq.2.2.2.2.2.2.2.2.2.2.2.2.2.2.2.1 | exact hq.2.2.2.2.2.2.2.2.2.2.2.2.2.2.2.2.1 | exact hq.2 | exact hq.2.2 | exact hq.2.2.2 | exact hq.2.2.2.2 | exact hq.2.2.2.2.2 | exact hq.2.2.2.2.2.2 | exact hq.2.2.2.2.2.2.2 | exact hq.2.2.2.2.2.2.2.2 | exact hq.2.2.2.2.2.2.2.2.2 | exact hq.2.2.2.2.2.2.2.2.2.2 | exact hq.2.2.2.2.2.2.2.2.2.2.2 | exact hq.2.2.2.2.2.2.2.2.2.2.2.2 | exact hq.2.2.2.2.2.2.2.2.2.2.2.2.2 | exact hq.2.2.2.2.2.2.2.2.2.2.2.2.2.2 | exact hq.2.2.2.2.2.2.2.2.2.2.2.2.2.2.2 | exact hq.2.2.2.2.2.2.2.2.2.2.2.2.2.2.2.2 | (clear hq; k_extra "andlt"))
    clear lF lN5 rgX
    intro c6 i ti u6 h6 tk6 own6 hi hoff hP lF lN
    obtain ⟨⟨⟨vq, qs⟩, nq⟩, ⟨⟨vp, ys⟩, np⟩⟩ := c6
    obtain ⟨hP0, hP1, hP2, hP3⟩ := hP
    dsimp only at hP0 hP1 hP2 hP3 lF lN
    have hMC : MarkC := ⟨trivial⟩
    rw [List.cons_append, List.cons_append, List.cons_append] at lN
    have m1 := List.mem_append_left own6 r1
    have m2 := List.mem_append_left own6 r2
    have m3 := List.mem_append_left own6 r3
    have m4 := List.mem_append_left own6 r4
    have mA := List.mem_append_left own6 rA
    have mO := List.mem_append_left own6 rO
    k_extra "go"
    refine Stop.mk ?_
    (rename MarkC => hMC)
    clear hMC
    have hOI : IntsAre [Value.int (([0, 1, 2, 3] : List Int).getD i1 0) t0, .int ((([0, 1, 2, 3] : List Int).eraseIdx i1).getD i2 0) t1, .int (((([0, 1, 2, 3] : List Int).eraseIdx i1).eraseIdx i2).getD i3 0) t2, .int ((((([0, 1, 2, 3] : List Int).eraseIdx i1).eraseIdx i2).eraseIdx i3).getLastD 0) t3] (ordS i1 i2 i3) := .cons _ _ (.cons _ _ (.cons _ _ (.cons _ _ .nil)))
    refine' c_turn _ _ _ _ _ _ _ _ [Value.int (([0, 1, 2, 3] : List Int).getD i1 0) t0, .int ((([0, 1, 2, 3] : List Int).eraseIdx i1).getD i2 0) t1, .int (((([0, 1, 2, 3] : List Int).eraseIdx i1).eraseIdx i2).getD i3 0) t2, .int ((((([0, 1, 2, 3] : List Int).eraseIdx i1).eraseIdx i2).eraseIdx i3).getLastD 0) t3] (ordS i1 i2 i3) 0 ?chm hOI ?chl2 ?chb2 ?ch02 ?ch12 _ _ _ _ _ _ _ _ _ _ _ _ _ _ _ _ _ ?chB ?chF ?chX ?chN ?chT ?chk ?chd ?chu ?_
    (case chB => k_asm)
    (case chF => k_asm)
    (case chX => k_asm)
    (case chN => k_asm)
    (case chT => k_asm)
    (case chk => first | exact rfl | assumption)
    (case chd => exact hroom _ (by decide))
    (case chu => exact hunits _ (by decide))
    case chm => exact List.mem_cons_of_mem _ (List.mem_cons_of_mem _ (List.mem_cons_of_mem _ mO))
    case chl2 => rfl
    case chb2 => exact ordS_lt qi1 qi2 qi3
    case ch02 => rw [Int.zero_add]; exact Int.natCast_nonneg _
    case ch12 => rw [Int.zero_add]; exact Int.ofNat_lt.mpr hi
    (try dsimp only)
    intro Dt vt nt ct h7 tk7 P7 I7 A7 lF7 lN7
    have hbt := turn_bits qi1 qi2 qi3 hi
    rw [Int.zero_add, hbt.2] at P7
    have hT16 := hbt.1
    clear hbt
    have hTd : turnT i1 i2 i3 i = turnT i1 i2 i3 i := rfl
    revert P7 hT16 hTd
    generalize hTv : turnT i1 i2 i3 i = T
    intro P7 hT16 _
    subst P7
    have ea0 : ([((T % 2 : Nat) : Int), ((T / 2 % 2 : Nat) : Int), ((T / 4 % 2 : Nat) : Int), ((T / 8 % 2 : Nat) : Int)] : List Int).getD (Int.toNat 0) 0 = ((T % 2 : Nat) : Int) := rfl
    have ea1 : ([((T % 2 : Nat) : Int), ((T / 2 % 2 : Nat) : Int), ((T / 4 % 2 : Nat) : Int), ((T / 8 % 2 : Nat) : Int)] : List Int).getD (Int.toNat 1) 0 = ((T / 2 % 2 : Nat) : Int) := rfl
    have ea2 : ([((T % 2 : Nat) : Int), ((T / 2 % 2 : Nat) : Int), ((T / 4 % 2 : Nat) : Int), ((T / 8 % 2 : Nat) : Int)] : List Int).getD (Int.toNat 2) 0 = ((T / 4 % 2 : Nat) : Int) := rfl
    have ea3 : ([((T % 2 : Nat) : Int), ((T / 2 % 2 : Nat) : Int), ((T / 4 % 2 : Nat) : Int), ((T / 8 % 2 : Nat) : Int)] : List Int).getD (Int.toNat 3) 0 = ((T / 8 % 2 : Nat) : Int) := rfl
    obtain ⟨b0, hb0⟩ : ∃ b, T % 2 = b := ⟨_, rfl⟩
    obtain ⟨b1, hb1⟩ : ∃ b, T / 2 % 2 = b := ⟨_, rfl⟩
    obtain ⟨b2, hb2⟩ : ∃ b, T / 4 % 2 = b := ⟨_, rfl⟩
    obtain ⟨b3, hb3⟩ : ∃ b, T / 8 % 2 = b := ⟨_, rfl⟩
    rw [hb0, hb1, hb2, hb3] at I7 ea0 ea1 ea2 ea3
    have lb0 : b0 < 2 := by rw [← hb0]; exact Nat.mod_lt _ (by decide)
    have lb1 : b1 < 2 := by rw [← hb1]; exact Nat.mod_lt _ (by decide)
    have lb2 : b2 < 2 := by rw [← hb2]; exact Nat.mod_lt _ (by decide)
    have lb3 : b3 < 2 := by rw [← hb3]; exact Nat.mod_lt _ (by decide)
    have At : ∀ p ∈ R ++ own6, p.1 ≠ Dt := fun p hp => A7 p (.tail _ (.tail _ (.tail _ hp)))
    have Atq : Dq ≠ Dt := A7 _ (.head _)
    have Atp : Dp ≠ Dt := A7 _ (.tail _ (.head _))
    clear A7
    k_with "cellget" => ((try dsimp only); (first | (refine' item_eq ea0 ?sjL I7 ?sj0 ?sj1 ?sj2 ?_ ?sjS) | (refine' item_eq ea1 ?sjL I7 ?sj0 ?sj1 ?sj2 ?_ ?sjS) | (refine' item_eq ea2 ?sjL I7 ?sj0 ?sj1 ?sj2 ?_ ?sjS) | (refine' item_eq ea3 ?sjL I7 ?sj0 ?sj1 ?sj2 ?_ ?sjS)); (case sjL => exact News.isList (by assumption) (by k_extra "lmem")); (case sj0 => decide); (case sj1 => simp); (case sj2 => decide); (case sjS => with_unfolding_all rfl); intro tS)
    have e4 : Txt.item (tx [chrS one two sg 0, chrS one two sg 1, chrS one two sg 2, chrS one two sg 3]) (((b1 : Nat) : Int) + 2 * ((b2 : Nat) : Int)) = tx [chrS one two sg (lettG T)] := by rw [← hb1, ← hb2]; exact item4 hT16
    k_with "letter" => ((try dsimp only); refine item_tx (n := 4) e4 rfl (by omega) (by omega) (by decide) ?_)
    obtain ⟨H, hH⟩ : ∃ H, (headG ahd T).map (chrS one two sg) = H := ⟨_, rfl⟩
    have hHl : H.length ≤ 2 := by rw [← hH]; exact head_len _ _ _
    have hHs : ∀ c ∈ H, c ∉ spec7 := by rw [← hH]; exact head_spec (by omega) (by omega) hsz _ _
    k_with "addtx" => ((try dsimp only); refine add_tx rfl rfl (by first | exact Nat.le_of_ble_eq_true rfl | (simp only [List.length_append, List.length_cons, List.length_nil]; omega) | omega) ?_; intro t' k' hle')
    have hMS : MarkS := ⟨trivial⟩
    k_extra "go"
    refine Stop.mk ?_
    repeat ((rename MarkS => hMS); clear hMS)
    (try clear lF)
    (try clear lF7)
    (try clear lN7)
    (rename Fr _ _ _ _ => lF8)
    (rename News _ _ _ _ => lN8)
    refine' lp_joinKT (σ := Tok) lN8 (fun t => [(Str.ofString "head", .str (tx H) t)]) [] (fun _ => True) lF8 ?jn8 ?jnd8
    case jn8 =>
      k_extra "go"
      · (rename @Eq Int _ 1 => hbb)
        (rename ahd = true => hah1)
        rw [hah1, headm1 _ hb0 hbb] at hH
        rw [← hH]
        refine' lpExK (σ := Tok) _ ?hFa ?hNa ?hsa ?hka ?hra ?hxa; (case hFa => assumption); (case hka => kst_all); (case hNa => assumption); (case hsa => exact fun p hp => hp); (case hra => k_extra "hr"); (case hxa => trivial)
      · (rename @Eq Int _ 1 => hbb)
        (rename ahd = false => hah1)
        rw [hah1, headm2 _ hb0 hbb] at hH
        rw [← hH]
        refine' lpExK (σ := Tok) _ ?hFb ?hNb ?hsb ?hkb ?hrb ?hxb; (case hFb => assumption); (case hkb => kst_all); (case hNb => assumption); (case hsb => exact fun p hp => hp); (case hrb => k_extra "hr"); (case hxb => trivial)
      · (rename @Ne Int _ 1 => hbb)
        rw [headm3 _ _ hb0 hbb] at hH
        rw [← hH]
        refine' lpExK (σ := Tok) _ ?hFc ?hNc ?hsc ?hkc ?hrc ?hxc; (case hFc => assumption); (case hkc => kst_all); (case hNc => assumption); (case hsc => exact fun p hp => hp); (case hrc => k_extra "hr"); (case hxc => trivial)
    clear lF8 lN8
    intro th uh h9 tk9 hle9 _ lF lN
    dsimp only at hle9
    obtain ⟨G, hG⟩ : ∃ G, Stop (decide (b3 = 1) = G) := ⟨_, .mk rfl⟩
    have e2 : Txt.item (Str.ofString "<>") (b3 : Int) = tx [lastC G] := by rw [← hG.out]; exact item2' lb3
    have o1 : -(((2 : Nat) : Nat) : Int) ≤ (b3 : Int) := by omega
    have o2 : (b3 : Int) < ((2 : Nat) : Int) := by omega
    k_with "sign2" => ((try dsimp only); refine item_tx (n := 2) e2 len2 o1 o2 (by decide) ?_)
    have hkeep := keep_hand w.params hway'
    k_with "callhand" => (k_here; k_dflt ((refine' callWith_K ?k1 ?k2 ?_; (case k1 => k_asm); (case k2 => exact hkeep); k_whole)))
    have hMC : MarkC := ⟨trivial⟩
    (try dsimp only)
    k_extra "go"
    refine Stop.mk ?_
    repeat ((rename MarkC => hMC); clear hMC)
    (rename @LE.le Nat _ _ _ => hle10)
    dsimp only at hle10
    have hx10 : lsT (tx (H ++ [lastC G])) = H ++ [lastC G] := rfl
    refine' c_hand _ _ _ _ _ way _ _ H G hway' hx10 hHs (Nat.le_trans hHl (by decide)) _ _ _ _ _ _ _ _ _ _ _ _ _ _ _ _ _ ?chB ?chF ?chX ?chN ?chT ?chk ?chd ?chu ?_
    (case chB => k_asm)
    (case chF => k_asm)
    (case chX => k_asm)
    (case chN => k_asm)
    (case chT => k_asm)
    (case chk => first | exact rfl | assumption)
    (case chd => exact hroom _ (by decide))
    (case chu => exact hunits _ (by decide))
    refine ⟨Nat.le_trans (by omega) hle10, ?_⟩
    (try dsimp only)
    clear lF lN
    intro tp h11 tk11 lF lN
    obtain ⟨Eg, hEg⟩ : ∃ Eg, lsT (endS way G) = Eg := ⟨_, rfl⟩
    have hEl : Eg.length ≤ 4 := by rw [← hEg]; exact endS_len _ _
    rw [hEg]
    k_with "endsget" => ((try dsimp only); (obtain ⟨ue, hue⟩ := ends_at (way := way) (u0 := u0) (u1 := u1) lb3); rw [hG.out, hEg] at hue; (refine' item_listR (x := .str (tx Eg) ue) (News.isList (by assumption) (List.mem_cons_of_mem _ (List.mem_cons_of_mem _ (List.mem_cons_of_mem _ (List.mem_cons_of_mem _ mA))))) ?i0e ?i1e ?i2e ?_ ?iSe); (case i0e => omega); (case i1e => (simp; omega)); (case i2e => (rw [List.getElem?_toArray, Int.toNat_natCast]; exact hue)); (case iSe => with_unfolding_all rfl))
    have hpe : (tx (H ++ Eg) != tx (H ++ Eg)) = false := by simp
    k_with "ite" => with_reducible refine ifb_f hpe ?_
    have hAq : ∀ p ∈ R ++ own6, p.1 ≠ Dq := fun p hp => (List.mem_append.mp hp).elim (rq p) (hoff.ne (List.Mem.head _) p)
    have hAp : ∀ p ∈ R ++ own6, p.1 ≠ Dp := fun p hp => (List.mem_append.mp hp).elim (rp p) (hoff.ne (.tail _ (List.Mem.head _)) p)
    have hzp : vp.toArray.size ≤ sizeLine := by rw [List.size_toArray, hP2.length, hP3, List.length_map, List.length_range]; exact Nat.le_trans (Nat.le_of_lt hi) (by decide)
    have hzq : vq.toArray.size ≤ sizeLine := by rw [List.size_toArray, hP0.length, hP1, List.length_map, List.length_range]; exact Nat.le_trans (Nat.le_of_lt hi) (by decide)
    k_with "append" => (k_dflt ((try dsimp only); (show wpAny _ _ (call (Value.builtin _) [Value.ref _, _]) _ _ _); (refine' append_K ?k1 ?k2 ?k3 ?_ ?z); (case k1 => k_asm); (case k2 => k_asm); (case k3 => k_upd); (case z => assumption)); intro h' F' N'; (try k_sweep))
    k_extra "go"
    · (try clear lF)
      (try clear lN)
      (rename Fr _ _ _ _ => lF)
      (rename News _ _ _ _ => lN)
      (rename (way : Int) < 3 => hw3)
      obtain ⟨tq, lN'⟩ := price_out lN (price_lo hTv hb0 hb1 hb2 hb3 hw3)
      refine' lpEx (((vq ++ [Value.int (priceR way i1 i2 i3 i) tq], qs ++ [priceR way i1 i2 i3 i]), nq + 1), ((vp ++ [Value.str (tx (H ++ Eg)) tp], ys ++ [tx (H ++ Eg)]), np + 1)) lF lN' ?hs ?hk ?hr ?hx
      (case hs => exact fun p hp => List.mem_cons_of_mem _ hp)
      (case hk => exact List.forall_mem_nil _)
      (case hr => k_extra "hr")
      (case hx => exact ⟨IntsAre.append hP0 (.cons _ _ .nil), by rw [List.range_succ, List.map_append, ← hP1]; rfl, StrsAre.snoc hP2, by rw [List.range_succ, List.map_append, ← hP3, List.map_cons, List.map_nil, page_out hway' hTv hb3 hH hG.out hEg]⟩)
    · (try clear lF)
      (try clear lN)
      (rename Fr _ _ _ _ => lF)
      (rename News _ _ _ _ => lN)
      (rename ¬ (way : Int) < 3 => hw3)
      obtain ⟨tq, lN'⟩ := price_out lN (price_hi hTv hb0 hb1 hb2 hb3 hw3)
      refine' lpEx (((vq ++ [Value.int (priceR way i1 i2 i3 i) tq], qs ++ [priceR way i1 i2 i3 i]), nq + 1), ((vp ++ [Value.str (tx (H ++ Eg)) tp], ys ++ [tx (H ++ Eg)]), np + 1)) lF lN' ?hs ?hk ?hr ?hx
      (case hs => exact fun p hp => List.mem_cons_of_mem _ hp)
      (case hk => exact List.forall_mem_nil _)
      (case hr => k_extra "hr")
      (case hx => exact ⟨IntsAre.append hP0 (.cons _ _ .nil), by rw [List.range_succ, List.map_append, ← hP1]; rfl, StrsAre.snoc hP2, by rw [List.range_succ, List.map_append, ← hP3, List.map_cons, List.map_nil, page_out hway' hTv hb3 hH hG.out hEg]⟩)
  case done6 =>
    k_with_none
    k_with "exec While" => refine Stop.out ?_
    k_with "LpQ" => first | refine lpQ_ret ?_ | refine lpQ_next ?_ | refine lpQ_brk ?_ | refine lpQ_cont ?_
    k_with "LpPost" => first | refine lpPost_ret ?_ | refine lpPost_next ?_ | refine lpPost_brk ?_ | refine lpPost_cont ?_
    k_with "go" => repeat' (first | (k_unfold; (try dsimp only)) | walk1 | (dsimp only; walk1) | (leave1; try dsimp only))
    k_with "hr" => (intro z h2 h3; (simp only [List.forall_mem_cons, List.not_mem_nil, false_implies, implies_true, and_true, ne_eq] at h2); (simp only [List.contains_cons, List.contains_nil, Bool.or_false, Bool.or_eq_false_iff, beq_eq_false_iff_ne, ne_eq] at h3); (simp [kstB, h2, h3]; done))
    k_with "lp" => ((case hF => assumption); (case hk => kst_all); (case hN => assumption); (case hs => kstt_sub); (case hr => k_extra "hr"))
    k_with "subscriptTail Name Slice str ref" => ((with_reducible show wpAny _ _ (subscriptTail _ (Expr.Slice none (some (Expr.BoolOp _ _ _)) none _) _ _) _ _ _); (rename Fr _ _ _ _ => lF'); (rename News _ _ _ _ => lN'); (try dsimp only); (refine slice_strN_nn (hsz := ?hsz) (s := ⟨_, _, _, _, _⟩) lF' lN' ?_); (case hsz => size_fits); intro _ _ _ _ _; (try rw [slice_nn]))
    k_with "ite" => first | (refine ine_t (by omega) ?_) | (refine ine_f (by omega) ?_)
    k_with "exec For" => ((rename Fr _ _ _ _ => lF'); (with_unfolding_all refine' For_invVF lF' ?k1 ?k2 ?_; (case k1 => exact rfl); (case k2 => exact rfl); k_whole))
    k_with "pyIter ref" => refine Stop.out ?_
    k_with "tkge" => ((try ((rename TkGe _ _ => hOld); clear hOld)); intro tkn hTkn hTk; (try dsimp only at hTkn); (try dsimp only at hTk); (try dsimp only))
    k_with "tkge" => ((rename MarkN => hM); refine Stop.out ?_)
    k_with "execsT" => (k_here; refine execs_consL (by with_reducible assumption) ?_)
    k_with "execsN" => ((rename TkGe _ _ => hM); k_here; refine wpAny_execs_nil ?_)
    k_with "listway" => ((try dsimp only); refine Stop.out ?_)
    k_with "number" => ((try dsimp only); refine Stop.out ?_)
    k_with "lmem" => first | exact List.mem_cons_self | (refine List.mem_cons_of_mem _ ?_; k_extra "lmem")
    k_with "stopcall" => ((rename MarkC => hM); refine Stop.out ?_)
    k_with "exec If" => ((rename MarkS => hM); refine Stop.out ?_)
    k_with "cellget" => ((try dsimp only); (first | (refine' item_eq ex0 ?siL I9 ?si0 ?si1 ?si2 ?_ ?siS) | (refine' item_eq ex1 ?siL I9 ?si0 ?si1 ?si2 ?_ ?siS) | (refine' item_eq ex2 ?siL I9 ?si0 ?si1 ?si2 ?_ ?siS) | (refine' item_eq ex3 ?siL I9 ?si0 ?si1 ?si2 ?_ ?siS)); (case siL => exact News.isList (by assumption) (by k_extra "lmem")); (case si0 => decide); (case si1 => (rw [hl9]; decide)); (case si2 => decide); (case siS => with_unfolding_all rfl); intro tS)
    k_with "mod" => with_reducible first | refine mod_eq eway (by decide) ?_ | refine mod_eq ewi (by decide) ?_ | refine mod_eq ei1 (by decide) ?_ | refine mod_eq ei2 (by decide) ?_ | refine mod_eq ei3 (by decide) ?_ | refine mod_eq ebi (by decide) ?_ | refine mod_eq esg (by decide) ?_ | refine mod_eq eah (by decide) ?_ | refine mod_eq eone (by decide) ?_ | refine mod_eq enine (by decide) ?_ | refine mod_eq etwo (by decide) ?_
    k_with "andlt" => ((rename @LT.lt Nat _ _ _ ∧ _ => hq); first | exact hq.1 | exact hq.2.1 | exact hq.2.2.1 | exact hq.2.2.2.1 | exact hq.2.2.2.2.1 | exact hq.2.2.2.2.2.1 | exact hq.2.2.2.2.2.2.1 | exact hq.2.2.2.2.2.2.2.1 | exact hq.2.2.2.2.2.2.2.2.1 | exact hq.2.2.2.2.2.2.2.2.2.1 | exact hq.2.2.2.2.2.2.2.2.2.2.1 | exact hq.2.2.2.2.2.2.2.2.2.2.2.1 | exact hq.2.2.2.2.2.2.2.2.2.2.2.2.1 | exact hq.2.2.2.2.2.2.2.2.2.2.2.2.2.1 | exact hq.2.2.2.2.2.2.2.2.2.2.2.2.2.2.1 | exact hq.2.2.2.2.2.2.2.2.2.2.2.2.2.2.2.1 | exact hq.2.2.2.2.2.2.2.2.2.2.2.2.2.2.2.2.1 | exact hq.2 | exact hq.2.2 | exact hq.2.2.2 | exact hq.2.2.2.2 | exact hq.2.2.2.2.2 | exact hq.2.2.2.2.2.2 | exact hq.2.2.2.2.2.2.2 | exact hq.2.2.2.2.2.2.2.2 | exact hq.2.2.2.2.2.2.2.2.2 | exact hq.2.2.2.2.2.2.2.2.2.2 | exact hq.2.2.2.2.2.2.2.2.2.2.2 | exact hq.2.2.2.2.2.2.2.2.2.2.2.2 | exact hq.2.2.2.2.2.2.2.2.2.2.2.2.2 | exact hq.2.2.2.2.2.2.2.2.2.2.2.2.2.2 | exact hq.2.2.2.2.2.2.2.2.2.2.2.2.2.2.2 | exact hq.2.2.2.2.2.2.2.2.2.2.2.2.2.2.2.2 | (clear hq; k_extra "andlt"))
    clear lF lN5 rgX
    intro c6 u6 h6 tk6 hP lF lN
    obtain ⟨⟨⟨vq, qs⟩, nq⟩, ⟨⟨vp, ys⟩, np⟩⟩ := c6
    obtain ⟨hP0, hP1, hP2, hP3⟩ := hP
    dsimp only at hP0 hP1 hP2 hP3 lF lN
    (try dsimp only)
    intro tkq hTkq hTk
    clear hTkq
    (try dsimp only at hTk)
    (try dsimp only)
    refine execs_consL hTk ?_
    have htk6 : @LE.le Nat _ (tn + 1) tkq := hTk.out
    clear hTk
    have hMC : MarkC := ⟨trivial⟩
    refine' assign_compT (fun k => k) lF ?sw ?clos ?cell ?kind ?names ?hx ?hy ?hp ?hs ?_
    (case sw => with_unfolding_all rfl)
    (case clos => with_unfolding_all rfl)
    (case cell => decide)
    (case kind => rfl)
    (case names => decide)
    (case hx => rfl)
    (case hy => rfl)
    (case hp => rfl)
    (case hs => (intro x; rfl))
    k_extra "go"
    refine Stop.mk ?_
    repeat ((rename MarkC => hMC); clear hMC)
    have hgy : ∀ i, i < 16 → ys.getD i Str.empty = pageR way i1 i2 i3 one two sg ahd i := fun i hi => by rw [hP3]; exact range_getD hi
    have hgq : ∀ i, i < 16 → qs.getD i 0 = priceR way i1 i2 i3 i := fun i hi => by rw [hP1]; exact range_getD hi
    have hone' : one < 10 := by omega
    have htwo' : two < 10 := by omega
    have hwi' : wi < 4 := by omega
    have hbi' : bi < 4 := by omega
    have hne12 : one ≠ two := ne_two hone' (by omega) etwo
    have hah : 2 < way → ahd = true := fun h => by rw [hPa]; exact decide_eq_true (.inl h)
    have hwg := wishG_ge (way - 2) wi
    have hwl := wishG_le (way - 2) wi hwi'
    have hql : qs.length = 16 := by rw [hP1, List.length_map, List.length_range]
    have hyl : ys.length = 16 := by rw [hP3, List.length_map, List.length_range]
    refine wpAny_of_toks ?_
    refine' c_taken _ _ _ _ _ Dp Dq vp vq np nq ys qs _ _ _ _ (.tail _ (.head _)) (.head _) hP2 hP0 hyl hql ?chys ?chb0 ?chb1 ?chw0 ?chw1 ?chd _ _ _ _ _ _ _ _ _ _ _ _ _ _ _ _ _ ?chB ?chF ?chX ?chN ?chT ?chk ?chdd ?chu ?_
    (case chB => k_asm)
    (case chF => k_asm)
    (case chX => k_asm)
    (case chN => k_asm)
    (case chT => k_asm)
    (case chk => first | exact rfl | assumption)
    (case chdd => exact hroom _ (by decide))
    (case chu => exact hunits _ (by decide))
    (case chys => exact fun i hi => by rw [hgy i hi]; exact page_len _ _ _ _ _ _ _ _ _)
    (case chb0 => omega)
    (case chb1 => omega)
    (case chw0 => omega)
    (case chw1 => omega)
    case chd =>
      intro o r ho hr
      rw [hgy o (Nat.lt_trans ho hr), hgy r hr, hgq _ (xor16 ⟨r, hr⟩ ⟨o, Nat.lt_trans ho hr⟩).2]
      exact far hway' hwi' hbi' qi1 qi2 qi3 hone' htwo' hsz hne12 hah ho hr
    (try dsimp only)
    clear lF lN
    intro Dl vl nl cl h7 tk7 P7 I7 A7 lF lN hle7
    dsimp only at hle7
    have hll : nl.length ≤ 16 := by rw [P7, nInts_len]; exact takP_len _ _ _
    refine ⟨Dl, vl, nl, cl, _, rfl, rfl, lF, lN, .head _, I7, ?sz, ?turn, ?fin⟩
    case sz => rw [I7.length]; exact Nat.le_trans hll (by decide)
    case turn =>
      intro k tk_ I oI C oC D m₂ zs h tk E' hle hk hns hm₂ lF8 lN8 off8 ne8
      obtain ⟨r, hr16, hkr⟩ : ∃ r : Nat, r < 16 ∧ k = (r : Int) := by
        rw [P7] at hk
        obtain ⟨r, hr, e⟩ := List.mem_map.mp hk
        exact ⟨r, takP_lt _ _ _ _ hr, e.symm⟩
      subst hkr
      k_with "pageget" => ((try dsimp only); (refine' item_strsR (ys := ys) ?siL hP2 ?si0 ?si1 ?si2 ?_ ?siS); (case siL => exact News.isList (by assumption) (by k_extra "lmem")); (case si0 => omega); (case si1 => omega); (case si2 => omega); (case siS => with_unfolding_all rfl); intro tS)
      have hMC : MarkC := ⟨trivial⟩
      k_extra "go"
      refine Stop.mk ?_
      repeat ((rename MarkC => hMC); clear hMC)
      have hT16 := (turn_bits qi1 qi2 qi3 hr16).1
      have hpv : ys.getD ((r : Int)).toNat Str.empty = tx ((headG ahd (turnT i1 i2 i3 r)).map (chrS one two sg) ++ (endG (way - 2) (decide (turnT i1 i2 i3 r / 8 % 2 = 1))).map (chrS one two sg)) := by rw [Int.toNat_natCast, hgy r hr16, page_app]
      have hrp := page_replaced (way := way) (i1 := i1) (i2 := i2) (i3 := i3) (r := r) (ahd := ahd) hway' hone' htwo' hsz
      have hpl : (ys.getD ((r : Int)).toNat Str.empty).length ≤ 40 := by rw [Int.toNat_natCast, hgy r hr16]; exact page_len _ _ _ _ _ _ _ _ _
      have hsy := syms_eq (ahd := ahd) hone' htwo' hsz hne12 (turnT i1 i2 i3 r)
      unfold OkR at hrp
      rw [← hpv] at hrp
      generalize ys.getD ((r : Int)).toNat Str.empty = px at hpl hrp
      have hOI : IntsAre [Value.int (([0, 1, 2, 3] : List Int).getD i1 0) t0, .int ((([0, 1, 2, 3] : List Int).eraseIdx i1).getD i2 0) t1, .int (((([0, 1, 2, 3] : List Int).eraseIdx i1).eraseIdx i2).getD i3 0) t2, .int ((((([0, 1, 2, 3] : List Int).eraseIdx i1).eraseIdx i2).eraseIdx i3).getLastD 0) t3] (ordS i1 i2 i3) := .cons _ _ (.cons _ _ (.cons _ _ (.cons _ _ .nil)))
      refine' c_told _ _ _ _ _ lor [Value.int (([0, 1, 2, 3] : List Int).getD i1 0) t0, .int ((([0, 1, 2, 3] : List Int).eraseIdx i1).getD i2 0) t1, .int (((([0, 1, 2, 3] : List Int).eraseIdx i1).eraseIdx i2).getD i3 0) t2, .int ((((([0, 1, 2, 3] : List Int).eraseIdx i1).eraseIdx i2).eraseIdx i3).getLastD 0) t3] 0 (ordS i1 i2 i3) px _ _ _ tn (numG sg) ?tmo hOI rfl hpl (usR one two sg ahd (turnT i1 i2 i3 r)) (lsR one two sg) hrp.1 hrp.2 (us_len _ _ _ _ _) rfl rfl (lsR_nodup hone' htwo' hsz hne12) (us_in hone' htwo' hsz hne12 _) ?txs (numG_in ⟨sg, hsz⟩).1 (numG_in ⟨sg, hsz⟩).2 ?ttd (fun i hi => ordS_lt qi1 qi2 qi3 i hi) _ _ _ _ _ _ _ _ _ _ _ _ _ _ _ _ _ ?chB ?chF ?chX ?chN ?chT ?chk ?chdd ?chu ?_
      (case chB => k_asm)
      (case chF => k_asm)
      (case chX => k_asm)
      (case chN => k_asm)
      (case chT => k_asm)
      (case chk => first | exact rfl | assumption)
      (case chdd => exact hroom _ (by decide))
      (case chu => exact hunits _ (by decide))
      (case tmo => exact List.mem_cons_of_mem _ (List.mem_cons_of_mem _ (List.mem_cons_of_mem _ (List.mem_cons_of_mem _ (List.mem_cons_of_mem _ (List.mem_cons_of_mem _ (List.mem_cons_of_mem _ rO)))))))
      (case txs => rw [hsy]; exact syms_in ⟨sg, hsz⟩ ahd ⟨_, hT16⟩)
      case ttd =>
        rw [hsy]
        have := turned_ok ⟨sg, hsz⟩ ahd ⟨_, hT16⟩
        dsimp only at this
        rw [this]
        exact bits4 _
      (try dsimp only at hle)
      (try dsimp only)
      refine ⟨htn1, ?_, ?_⟩
      · show @LT.lt Nat _ tn tk
        omega
      rw [told_row qi1 qi2 qi3 hone' htwo' hsz hne12 hr16]
      clear lF8 lN8
      intro t9 h9 tk9 lF9 lN9
      exact LCg.CompEnd.intro lF9 lN9 _ (fun p hp => hp) off8 trivial ⟨rfl, t9, rfl⟩
    case fin =>
      intro D zs h tk hi lF9 lN9 off9
      have hMC : MarkC := ⟨trivial⟩
      k_extra "go"
      refine Stop.mk ?_
      repeat ((rename MarkC => hMC); clear hMC)
      refine' c_sums _ _ _ _ _ Dq vq nq qs _ _ (.tail _ (.tail _ (.head _))) hP0 hql _ _ _ _ _ _ _ _ _ _ _ _ _ _ _ _ _ ?chB ?chF ?chX ?chN ?chT ?chk ?chdd ?chu ?_
      (case chB => k_asm)
      (case chF => k_asm)
      (case chX => k_asm)
      (case chN => k_asm)
      (case chT => k_asm)
      (case chk => first | exact rfl | assumption)
      (case chdd => exact hroom _ (by decide))
      (case chu => exact hunits _ (by decide))
      (try dsimp only)
      clear lF lN lF9 lN9
      intro Ds vs_ ns_ cs_ h10 tk10 P10 I10 A10 lF lN
      have z1 : B5 ≠ Ds := A10 _ (.tail _ (.tail _ (.tail _ (.tail _ (.head _)))))
      have z2 : B5 ≠ D := off9 _ (.tail _ (.tail _ (.tail _ (.head _))))
      have z3 : B5 ≠ Dl := A7 _ (.tail _ (.tail _ (.head _)))
      have hMN : MarkN := ⟨trivial⟩
      k_extra "go"
      refine Stop.mk ?_
      repeat ((rename MarkN => hMN); clear hMN)
      repeat ((rename TkGe _ _ => hTk); clear hTk)
      intro tkz hTkz hTk
      clear hTk hTkz
      (try dsimp only)
      have hMS : MarkS := ⟨trivial⟩
      k_with "stoplc" => ((rename MarkS => hM); refine Stop.out ?_)
      k_extra "go"
      refine Stop.mk ?_
      repeat ((rename MarkS => hMS); clear hMS)
      (rename Fr _ _ _ _ => lF11)
      (rename News _ _ _ _ => lN11)
      refine LCt.ListComp_T (F₀ := lF11) (by with_unfolding_all rfl) (by decide) (by rfl) (by decide) (by rfl) ?_
      k_with "stopsrc" => ((rename MarkN => hM); refine Stop.out ?_)
      have hMN : MarkN := ⟨trivial⟩
      k_extra "go"
      refine Stop.mk ?_
      repeat ((rename MarkN => hMN); clear hMN)
      (try clear lF11)
      (try clear lN11)
      (rename Fr _ _ _ _ => lF12)
      (rename News _ _ _ _ => lN12)
      (rename IsRange _ _ _ _ _ _ _ _ => rg12)
      refine LCt.CompSrcT.range (n := 16) rfl lF12 lN12 rg12 (small_one (by omega) (by omega) (by omega) (by omega)) (by rw [rangeSize_nat]; rfl) (by decide) ?_
      intro g12
      obtain ⟨pz, hpz⟩ : ∃ p : Nat → Bool, p = fun r => ns_.getD r 0 == 0 := ⟨_, rfl⟩
      refine' kci_range (fun a k => if pz k.toNat = true then a ++ [k] else a) (fun k t12 I oI C oC D12 m₂ ys12 l12 h12 tk12 E' hlo hhi hI12 hns hm₂ lF13 lN13 off13 ne13 mk13 => ?trn) ?fn (foldG_grows pz)
      case trn =>
        obtain ⟨r, hr⟩ : ∃ r : Nat, k = (r : Int) := ⟨k.toNat, (Int.toNat_of_nonneg hlo).symm⟩
        subst hr
        obtain ⟨x, hx⟩ : ∃ x, ns_.getD ((r : Int)).toNat 0 = x := ⟨_, rfl⟩
        have hsl : ns_.length = 16 := by rw [P10, sumsS_len]
        k_with "pageget" => ((try dsimp only); (refine' item_eq hx ?siL ?siI ?si0 ?si1 ?si2 ?_ ?siS); (case siI => assumption); (case siL => exact News.isList (by assumption) (by k_extra "lmem")); (case si0 => omega); (case si1 => omega); (case si2 => omega); (case siS => with_unfolding_all rfl); intro tS)
        (try dsimp only)
        k_extra "go"
        · (rename x = 0 => hx0)
          have hp : pz ((r : Int)).toNat = true := by rw [hpz]; dsimp only; rw [hx, hx0]; rfl
          refine' LCg.CompEnd.intro ?hF ?hN _ (fun p hp => hp) off13 trivial (kci_el (if_pos hp) rfl rfl)
          (case hF => assumption)
          (case hN => assumption)
        · (rename x ≠ 0 => hx0)
          have hp : ¬ pz ((r : Int)).toNat = true := by rw [hpz]; dsimp only; rw [hx]; exact fun h => hx0 (eq_of_beq h)
          refine' LCg.CompEnd.intro ?hF ?hN _ (fun p hp => hp) off13 trivial (kci_no (if_neg hp) rfl)
          (case hF => assumption)
          (case hN => assumption)
      case fn =>
        show ∀ ys, _ → _ → _
        intro zs2 hz2 hlen2
        rw [range16, foldG, List.nil_append] at hz2
        intro D2 h2 tk2 lF13 lN13 off13
        (try dsimp only)
        k_with "stopeq" => ((rename MarkN => hM); refine Stop.out ?_)
        have hMN : MarkN := ⟨trivial⟩
        k_extra "go"
        refine Stop.mk ?_
        have heq : List.map (fun k => k) nl = nInts (List.filter pz (List.range 16)) := by
          rw [List.map_id', P7, hpz]
          exact congrArg nInts (rows_eq hway' hwi' qi1 qi2 qi3 hP1 P10)
        refine eq_intsK (vs := zs) (us := zs2) ⟨_, (lN13 _ (.tail _ (.tail _ (.head _)))).1, rfl, _, rfl⟩ hi ⟨_, (lN13 _ (.head _)).1, rfl, _, rfl⟩ hz2 ?hu ?_
        case hu =>
          have : callerA.units + 3 + 64 < cLine := by decide +kernel
          exact this
        rw [decide_eq_true heq]
        (try dsimp only)
        with_reducible exact law_end (by assumption) (by assumption)
end Mine
end
theorem PySem.Challenge.cw_tc0053_01_holds : PySem.Challenge.rw_tc0053_01.Holds :=
  Mine.law_main
