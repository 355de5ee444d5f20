/- The contract of impl.edited: one edit, by its definition. No statement of the seat is proved here. -/
import Derived.Test.YtaimljagflnfpaaEdited2
namespace Go.Proofs.Ytaimljagflnfpaa
open Go.RowKit

theorem edited_ok (w : World) (base : Nat) (A : Option Addr) (n c : Nat) (l : List Int) (e : Edt) (B : Option Addr) (d : Nat) (hown : w.ownsRow base 3 1 (.slice A n c) n (ints l)) (hval : Row w 1 B e.2.2.2.length d (ints e.2.2.2)) (hn : n ≤ 17592186043904) (hm : n + e.2.2.2.length ≤ 17592186043904) (hbase : base ≤ w.heap.size) :
    Calls Try.prog 25 #[.slice A n c, edV e B d] w (EdPost w base (.slice A n c) l e) := by
  obtain ⟨k, i, j, vs⟩ := e
  unfold edV
  simp only at hval hm ⊢
  have hn' : n ≤ 17592186043904 := by omega
  have hm' : n + vs.length ≤ 17592186043904 := by omega
  by_cases h0 : k = 0
  · subst h0
    by_cases hi : 0 ≤ i ∧ i ≤ (n : Int)
    · exact edited_insert w base A n c l i j B _ d vs hown hval hn' hm' hbase hi
    · exact edited_insert_out w base A n c l i j B _ d vs hown hval hn' hm' hbase (by omega)
  · by_cases h1 : k = 1
    · subst h1
      by_cases hi : 0 ≤ i ∧ i ≤ j ∧ j ≤ (n : Int)
      · exact edited_delete w base A n c l i j B _ d vs hown hval hn' hm' hbase hi
      · exact edited_delete_out w base A n c l i j B _ d vs hown hval hn' hm' hbase hi
    · by_cases h2 : k = 2
      · subst h2
        by_cases hi : 0 ≤ i ∧ i ≤ j ∧ j ≤ (n : Int)
        · exact edited_replace w base A n c l i j B _ d vs hown hval hn' hm' hbase hi
        · exact edited_replace_out w base A n c l i j B _ d vs hown hval hn' hm' hbase hi
      · by_cases h3 : k = 3
        · subst h3
          exact edited_compact w base A n c l i j B _ d vs hown hval hn' hm' hbase
        · by_cases h4 : k = 4
          · subst h4
            exact edited_concat w base A n c l i j B _ d vs hown hval hn hm hbase
          · exact edited_other w base A n c l i j B _ d vs hown hval hn' hm' hbase k (by simpa using h0) (by simpa using h1) (by simpa using h2) (by simpa using h3) (by simpa using h4)
end Go.Proofs.Ytaimljagflnfpaa
